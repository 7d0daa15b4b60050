import PyProof.Rows.All
import Wide.All
import OpenK.AllK
import Wide.FinOn
import Lean
import PySem.Challenge.RW_bk5009_01
open PySem PySem.W PyProof.Rows PySem.Calls
set_option Elab.async false
set_option maxRecDepth 100000
set_option linter.unusedVariables false
set_option linter.unusedSimpArgs false
/-
The law of unpack_from, proved by hand. The parts, in their order:
Top0, Top1: the head. bytearray looks at the whole stack for a decoder, so the walk is asked for at the claim's own context alone (WalkC), not at all contexts;
  Top0 follows the steps of the library's head lemmas with that weaker premise, and open_top takes it for its head.
B1 .. B11: a small logic over wpAny (W), contracts of calls (Sp), rules of the constructs. Ru*, Re*, Ba*, N*, Ge*, Rz*: further rules
  (methods, the pattern, bytearray and the judgement N at contexts without decoders, generators, raises).
Fns: the defs of the text, as they stand in the heap. F*: their contracts, each proved once. Q*: the plain law. L0 .. L5: the law's body, from its end to its start. J1: the join.
-/
namespace Mine
-- part Top0
/-- the context of the claim's own call -/
noncomputable abbrev Γc : Ctx := ⟨.builtin "claim.caller" {}, none, none, [], none⟩
/-- a tree at the claim's own context -/
noncomputable def atC {α : Type} (M : Model) (t : Sem α) (Q : α → Shared → Prop) (E : Value → Shared → Prop) (s : Shared) : Prop :=
  ∀ p, Sem.wp M Γc t (fun a _ s' => Q a s') (fun e _ s' => E e s') p s
section
variable {α β : Type} {M : Model} {E : Value → Shared → Prop} {s : Shared}
theorem atC_any {t : Sem α} {Q : α → Shared → Prop} (h : wpAny M callerA t Q E s) : atC M t Q E s := fun p => h Γc p caller_in
theorem atC_bind {m : Sem α} {f : α → Sem β} {Q : β → Shared → Prop} (h : atC M m (fun a s' => atC M (f a) Q E s') E s) : atC M (m >>= f) Q E s := fun p => by
  rw [Sem.wp_bind']
  exact Sem.wp_mono M Γc m (fun a p' s' h' => h' p') (fun _ _ _ h' => h') p s (h p)
theorem atC_mono {t : Sem α} {Q Q' : α → Shared → Prop} {E' : Value → Shared → Prop} (h : atC M t Q E s) (k : ∀ a s, Q a s → Q' a s) (ke : ∀ e s, E e s → E' e s) : atC M t Q' E' s :=
  fun p => Sem.wp_mono M Γc t (fun a _ s => k a s) (fun e _ s => ke e s) p s (h p)
end

theorem ends_c {prog : Program} {w : World} {t : Sem Fin} {s : Shared} {R : Result → Shared → Prop} (hreg : s.asleep)
    (h : atC (model prog w) t (fun fin s' => ∃ f, fin = .done f ∧ (R (.ok f) s' ∧ leftWithCleanup s'.gens = false)) (fun e s' => R (.error e) s' ∧ leftWithCleanup s'.gens = false) s) :
    ∃ n r s' s'', runN (denote table) prog w n s ⟨t, .builtin "claim.caller" {}, default, []⟩ = .halted (outcomeOf r) s' ∧
      schedN (denote table) prog w n (.single s ⟨t, .builtin "claim.caller" {}, default, []⟩) = .halted (outcomeOf r) s' ∧ s'.forget = s''.forget ∧ R r s'' := by
  obtain ⟨n, r, s₁, s₂, hs, hn, hf, hR⟩ := wp_halts_full (M := model prog w) (R := R) hreg
    (Sem.wp_mono _ _ _ (fun fin p' s' ⟨f, e, x⟩ => by subst e; exact x) (fun _ _ _ x => x) _ _ (h default))
  exact ⟨n, r, s₂, s₁, hn, hs, hf, hR⟩

theorem callFrom_c {c : ClaimW} {tree : List Value → Sem Fin} {w : World} {s : Shared} {free : Addr → Prop} {gens : Prop} {kept : Heap → Prop} (hz : s.asleep) (hgens : s.gens = #[])
    (spec : ∀ args, c.pre args = true → WData.layableAll args = true → ∀ ord : List DictEntry → List DictEntry, (∀ l, (ord l).Perm l) →
      ∃ vs s₁, layAllW c.records (classAt s.heap) w.params ord args s = some (vs, s₁) ∧
        atC (model c.prog w) (tree vs) (fun fin s' => ∃ f, fin = .done f ∧ (c.Ends s args vs s₁ (.ok f) s' ∧ s'.os = s.os ∧ AllBare s'.gens ∧ kept s'.heap))
          (fun e s' => c.Ends s args vs s₁ (.error e) s' ∧ s'.os = s.os ∧ AllBare s'.gens ∧ kept s'.heap) s₁) :
    c.CallFrom (fun vs => ⟨tree vs, .builtin "claim.caller" {}, default, []⟩) w free gens kept s := fun args hpre hlay ord hord => by
  obtain ⟨vs, s₁, hlaid, hcode⟩ := spec args hpre hlay ord hord
  have rest := layAllW_rest _ _ _ hlaid
  obtain ⟨n, r, s', s'', hrun, hsched, hfo, ends, hos, hk⟩ := ends_c (prog := c.prog) (w := w) (t := tree vs) (s := s₁) (R := fun r s' => c.Ends s args vs s₁ r s' ∧ s'.os = s.os ∧ kept s'.heap) (Shared.asleep_of_life rest.2.2.2 hz)
    (atC_mono hcode (fun fin s' ⟨f, e, a, b, d, k⟩ => ⟨f, e, ⟨a, b, k⟩, leftWithCleanup_false_of_bare d⟩) fun e s' ⟨a, b, d, k⟩ => ⟨⟨a, b, k⟩, leftWithCleanup_false_of_bare d⟩)
  obtain ⟨eh, _, _, eo, _⟩ := Shared.forget_eq hfo
  have ends' := ends.congr eh
  have life : s'.heap.life = s.heap.life := (runN_life _ _ _ hrun).trans rest.2.2.2
  refine ⟨vs, s₁, hlaid, n, _, s', hsched, ?_, (fun _ i x hx => by rw [hgens] at hx; simp at hx), by rw [eh]; exact hk, by rw [life], Shared.rest_eq (eo.trans hos)⟩
  rcases ends' with ⟨v, rfl, d1, d2, d3, d4, d5⟩ | ⟨e, ob, cls, rfl, d1, d2, d3, d4, d5⟩
  · exact .inl ⟨v, rfl, d1, d2, d3, fun b o y _ => d4 b o y, d5⟩
  · exact .inr ⟨e, ob, cls, rfl, d1, d2, d3, d4, fun b o y _ => d5 b o y⟩

/-- what is asked of the walk: at the claim's own context -/
noncomputable abbrev WalkC (q : Program) (loose : List Str) (XP : (Str → Option Value) → Heap → Prop) (YP : World → Heap → Prop) (r : RowW) (d : DefRec) (kwd : List (Str × Expr)) : Prop :=
  ∀ (w : World) (s₀ s₁ : Shared) (mg mb : Str → Option Value), Ground q loose r.records XP w s₀ mg mb s₁.heap → YP w s₁.heap → ∀ (a : Addr) (o : Obj) (pm cd doc dV kV : Value), s₁.heap.get? a = some o →
    o.data = .func { docDef d.name d.params d.body d.scope pm cd doc with defaults := dV, kwdefaults := kV } → s₁.heap.CodeRec cd d.name → Dflts mg s₁.heap d.params kwd dV kV → mg d.name = some (.ref a) → s₁.gens = #[] →
    ∀ (args : List WData) (vals : List Value) (as : List Addr), r.claim.pre args = true → WData.layableAll args = true → ReadsAllW r.records (classAt s₀.heap) s₁.heap vals args as → WellAll w.params s₁.heap vals args → (∀ a ∈ as, (a == sysModules) = false) →
      atC (model r.prog w) (PySem.call (.ref a) vals) (fun v s' => GoodWG r.claim (classAt s₀.heap) (ExcName.means s₀.heap) args s₁ (.ok (.ret v)) s')
        (fun e s' => GoodWG r.claim (classAt s₀.heap) (ExcName.means s₀.heap) args s₁ (.error e) s') s₁

theorem PySem.W.holds_open {r : OpenRow} {q : Program} {loose : List Str} {Xt : Shared → Bool} {XP : (Str → Option Value) → Heap → Prop} {α : Type} {Yf : Shared → α} {Ya : World → α} {YP : World → Heap → Prop} {d : DefRec} {kwd : List (Str × Expr)} {N : Nat}
    (left : LeftO r.prog q loose Xt Yf Ya N) (hY : ∀ w s, Yf s = Ya w → YP w s.heap) (hYk : ∀ w h h', YP w h → (∀ b o, h.get? b = some o → h'.get? b = some o) → YP w h')
    (hX : ∀ s, Xt s = true → XP (s.heap.nsMap mainGlobals) s.heap) (hXk : ∀ mg h h', XP mg h → (∀ b o, h.get? b = some o → h'.get? b = some o) → XP mg h')
    (hdef : defOf q r.name = some (d, kwd)) (hp : r.prog.theDef r.name = some (d.params, d.body, d.scope)) (hk : kwWritten? d.params.kwonlyargs d.params.kw_defaults = some kwd) (hRf : ∀ s, Xt s = true → RecFacts r.records s.heap) (hwr : (!r.writes || r.records.isEmpty) = true)
    (k1 : r.wellSaid = true) (ok : (chainsOk q && opensWell r.prog && (frees r.toRowW && r.within.isEmpty)) = true) (hb : r.prog.bare) (hw : r.toRowW.promised)
    (call : WalkC q loose XP YP r.toRowW d kwd) : r.Holds := by
  obtain ⟨ok1, ok2⟩ := Bool.and_eq_true_iff.mp ok
  obtain ⟨hch, hop⟩ := Bool.and_eq_true_iff.mp ok1
  obtain ⟨hfr, hin⟩ := Bool.and_eq_true_iff.mp ok2
  obtain ⟨hsame, hu, ha, hap, hm⟩ := frees_parts hfr
  refine ⟨k1, hw, ⟨hb, hop, by show r.toRowW.makers.map _ = []; rw [hm]; rfl⟩, hw.witness, fun w => ⟨(left.behind hX hch w).1, fun s' hs' => ?_⟩⟩
  obtain ⟨s₀, hf, hg0, s, hT, hz, hgens, hg, G00, y⟩ := (left.behind (XP := fun mg h => XP mg h ∧ RecFacts r.records h) (fun s hs => ⟨hX s hs, hRf s hs⟩) hch w).2 s' hs'
  have G0 : Ground q loose [] XP w s (s.heap.nsMap mainGlobals) (s.heap.nsMap builtinsNs) s.heap := ⟨G00.T, G00.B, G00.D, G00.TE, G00.TD, G00.W, G00.X.1, G00.cls, G00.has, G00.apart, G00.once, G00.K⟩
  have RF := G00.X.2
  refine ⟨s₀, hf, hg0, s, hT, fun n hn => ?_, RF.1, RF.2.1, ?_⟩
  · obtain rfl : n = r.name := by split at hn <;> simp_all
    exact pinned_of_view hg G0 hdef hp hk
  have hgens : s.gens = #[] := Array.eq_empty_of_size_eq_zero (beq_iff_eq.mp hgens)
  have G : Ground q loose r.records XP w s _ _ s.heap := RF.ground G0
  refine callFrom_c (c := r.toRowW.claim) (tree := fun vs => do match ← nsGet mainNs r.name with
      | some f => do ret (← PySem.call f vs)
      | none => unsupported "claim.caller:no-such-global") hz hgens fun args hpre hlay ord hord => ?_
  obtain ⟨⟨vs, s₁⟩, hlaid⟩ := Option.isSome_iff_exists.mp (layAllW_isSome (P := w.params) (ord := ord) G.has args r.args s (pre_splitW (r := r.toRowW) hpre).1)
  have keeps := layAllW_keeps _ _ _ hlaid
  have rest := layAllW_rest _ _ _ hlaid
  obtain ⟨as, hrd, hinn, hold⟩ := reads_layAllW hord _ _ _ hlaid hlay s₁.heap (fun _ _ e => e)
  have L : Laid r.records w s s₁ args vs as := ⟨⟨ord, hord, hlaid⟩, hrd, hinn, hold, keeps, rest.1.trans hgens, rest.2.2.1⟩
  have G₁ := G.keeps hXk keeps
  obtain ⟨a, o, pm, cd, doc, dV, kV, h1, h2, h3, h4, h5⟩ := G₁.fn hdef
  have hi := ident_freeW hu ha hap
  have hwi : r.toRowW.claim.within = [] := List.isEmpty_iff.mp hin
  have main := call w s s₁ _ _ G₁ (hYk _ _ _ (hY w s y) keeps) a o pm cd doc dV kV h2 h3 h4 h5 (defOf_name hdef ▸ h1) L.gens args vs as hpre hlay L.reads L.well (L.low G.low)
  refine ⟨vs, s₁, hlaid, atC_bind (atC_any (wpAny_nsGet G₁.T.g ?_))⟩
  rw [h1]
  refine atC_bind (atC_mono main (fun v s' g => ?_) fun e s' g => ?_)
  · refine atC_any (wpAny_pure ⟨_, rfl, ?_⟩)
    have z := g.laid (c := r.toRowW.claim) hsame hwi hi L
    exact ⟨z.1, z.2.1, z.2.2, fun q => ⟨namesKept_of hT hg _ keeps g.2.1.old, noTable hwr q⟩⟩
  · have z := g.laid (c := r.toRowW.claim) hsame hwi hi L
    exact ⟨z.1, z.2.1, z.2.2, fun q => ⟨namesKept_of hT hg _ keeps g.2.1.old, noTable hwr q⟩⟩
-- part Top1
set_option maxHeartbeats 0 in
open_top hd for PySem.Challenge.rw_bk5009_01
-- part B1
noncomputable abbrev prog : Program := PySem.Challenge.pw_bk5009_01
noncomputable abbrev KF (w : World) : Frag := hd.heap_39 w.params
theorem fillK : (PySem.Challenge.rw_bk5009_01 = PySem.Challenge.rw_bk5009_01) ∧ hd.heap_39 = hd.heap_39 := by
  k_fill
  exact ⟨rfl, rfl⟩

noncomputable abbrev Led := List (Addr × Obj)
noncomputable abbrev Vals := List (Option Value)

/-- what the top has left, in any heap -/
structure Base (w : World) (h : Heap) : Prop where
  kin : (KF w).In h
  bi : ∃ mb, h.Ns builtinsNs mb ∧ ∀ x : Str, x ≠ "__name__" → mb x = bootBuiltins x
  lim : h.NoLimit
  g : ∃ mg, h.Ns mainGlobals mg

theorem Base.keeps {w : World} {h h' : Heap} (b : Base w h) (k : ∀ a o, h.get? a = some o → h'.get? a = some o) : Base w h' :=
  ⟨fun a o e => k a o (b.kin a o e), let ⟨mb, n, e⟩ := b.bi; ⟨mb, n.keeps k, e⟩, b.lim.keeps k, let ⟨mg, n⟩ := b.g; ⟨mg, n.keeps k⟩⟩

/-- a function of the text: where it stands, its local names in slots -/
structure Fn where
  addr : Addr
  names : List Str
  fd : FuncData
  mkE : Addr → Addr → Env := fun L _ => callEnv fd L addr

noncomputable def slot (names : List Str) (V : Vals) (x : Str) : Option Value := ((names.zip V).lookup x).join

structure AOk (n : Nat) (A : Around) : Prop where
  hnd : A.handled = none
  dep : A.depth + n ≤ 900
  uni : A.units + 8 * n ≤ 9000
  fr : ∃ l, A.frames = some l
  gd : A.guards = some []

noncomputable def GensOk (g g' : Array GenState) : Prop := (∀ (i : Nat) x, g[i]? = some x → g'[i]? = some x) ∧ ∀ (i : Nat) x, g.size ≤ i → g'[i]? = some x → x.bare = true
theorem GensOk.refl (g : Array GenState) : GensOk g g := ⟨fun _ _ h => h, fun i x h e => by
  have := (Array.getElem?_eq_some_iff.mp e).1; omega⟩
theorem GensOk.size {g g' : Array GenState} (h : GensOk g g') : g.size ≤ g'.size := by
  rcases Nat.lt_or_ge g'.size g.size with q | q
  · exfalso
    have e : g[g'.size]? = some g[g'.size] := Array.getElem?_eq_getElem q
    have := (Array.getElem?_eq_some_iff.mp (h.1 _ _ e)).1
    omega
  · exact q
theorem GensOk.trans {a b c : Array GenState} (h : GensOk a b) (k : GensOk b c) : GensOk a c :=
  ⟨fun i x e => k.1 i x (h.1 i x e), fun i x hi e => by
    rcases Nat.lt_or_ge i b.size with q | q
    · have e' : b[i]? = some b[i] := Array.getElem?_eq_getElem q
      have := k.1 _ _ e'
      rw [e] at this
      rw [Option.some.inj this]
      exact h.2 i _ hi e'
    · exact k.2 i x q e⟩
theorem GensOk.allBare {g g' : Array GenState} (h : GensOk g g') (b : AllBare g) : AllBare g' := fun y hy => by
  obtain ⟨i, hi, rfl⟩ := Array.mem_iff_getElem.mp hy
  have e : g'[i]? = some g'[i] := Array.getElem?_eq_getElem hi
  rcases Nat.lt_or_ge i g.size with q | q
  · have e' : g[i]? = some g[i] := Array.getElem?_eq_getElem q
    have := h.1 _ _ e'
    rw [e] at this
    rw [Option.some.inj this]
    exact b _ (Array.getElem_mem q)
  · exact h.2 i _ q e

/-- an activation of F -/
structure Cx (F : Fn) where
  w : World
  A : Around
  L : Addr
  h₀ : Heap
  g₀ : Array GenState
  os₀ : OsState
  n : Nat
  aok : AOk n A
  base : Base w h₀
  out : Addr := 0

noncomputable def Cx.env {F : Fn} (C : Cx F) : Env := F.mkE C.L C.out

structure FnOk (F : Fn) : Prop where
  nd : F.names.Nodup
  loc : ∀ x ∈ F.names, F.fd.scope.names.lookup x = some .local
  kind : F.fd.scope.kind = .function
  dbg : ∀ x ∈ F.names, (x == ("__debug__" : Str)) = false
  gl : F.fd.globals = mainGlobals
  bn : F.fd.builtins = builtinsNs
  en : ∀ L o, (F.mkE L o).scope = F.fd.scope ∧ (F.mkE L o).locals = L ∧ (F.mkE L o).globals = mainGlobals ∧ (F.mkE L o).builtins = builtinsNs
theorem FnOk.env_scope {F : Fn} (ok : FnOk F) (C : Cx F) : C.env.scope = F.fd.scope := (ok.en _ _).1
theorem FnOk.env_locals {F : Fn} (ok : FnOk F) (C : Cx F) : C.env.locals = C.L := (ok.en _ _).2.1
theorem FnOk.env_globals {F : Fn} (ok : FnOk F) (C : Cx F) : C.env.globals = mainGlobals := (ok.en _ _).2.2.1
theorem FnOk.env_builtins {F : Fn} (ok : FnOk F) (C : Cx F) : C.env.builtins = builtinsNs := (ok.en _ _).2.2.2
theorem FnOk.env_kind {F : Fn} (ok : FnOk F) (C : Cx F) (x : Str) : C.env.kindOf x = F.fd.scope.names.lookup x := by
  show C.env.scope.names.lookup x = _
  rw [ok.env_scope]
theorem FnOk.env_fun {F : Fn} (ok : FnOk F) (C : Cx F) : C.env.scope.kind = .function := by rw [ok.env_scope]; exact ok.kind

/-- the state as an activation sees it: its names, its ledger -/
structure Vw {F : Fn} (C : Cx F) (V : Vals) (H : Led) (s : Shared) : Prop where
  fr : Fr C.h₀ C.L s.heap (slot F.names V)
  nw : News C.h₀ C.L s.heap H
  nd : (H.map (·.1)).Nodup
  gens : GensOk C.g₀ s.gens
  os : s.os = C.os₀

structure W {F : Fn} (C : Cx F) {α : Type} (E : Value → Vals → Led → Prop) (t : Sem α) (V : Vals) (H : Led) (Q : α → Vals → Led → Prop) : Prop where
  run : ∀ s, Vw C V H s → wpAny (model prog C.w) C.A t (fun a s' => ∃ V' H', Vw C V' H' s' ∧ Q a V' H') (fun e s' => ∃ V' H', Vw C V' H' s' ∧ E e V' H') s

noncomputable def NoE : Value → Vals → Led → Prop := fun _ _ _ => False

section
variable {F : Fn} {C : Cx F} {α β : Type} {E : Value → Vals → Led → Prop} {V : Vals} {H : Led}

theorem Vw.at {s : Shared} (v : Vw C V H s) {a : Addr} {o : Obj} (h : (a, o) ∈ H) : s.heap.get? a = some o := (v.nw _ h).1
theorem Vw.old {s : Shared} (v : Vw C V H s) {a : Addr} {o : Obj} (h : C.h₀.get? a = some o) : s.heap.get? a = some o := v.fr.keep _ _ h
theorem Vw.base {s : Shared} (v : Vw C V H s) : Base C.w s.heap := C.base.keeps v.fr.keep
theorem Vw.toks {s : Shared} (v : Vw C V H s) (t : Nat) : Vw C V H { s with toks := t } := ⟨v.fr, v.nw, v.nd, v.gens, v.os⟩
theorem Vw.push {s : Shared} (v : Vw C V H s) {o : Obj} (hf : o.isFreed = false) : Vw C V ((s.heap.objs.size, o) :: H) { s with heap := s.heap.push o } :=
  ⟨v.fr.push o, v.nw.push v.fr o hf, by
    refine List.nodup_cons.mpr ⟨fun hm => ?_, v.nd⟩
    obtain ⟨p, hp, e⟩ := List.mem_map.mp hm
    have := Heap.lt_size (v.nw p hp).1
    rw [e] at this
    exact Nat.lt_irrefl _ this, v.gens, v.os⟩
theorem Vw.sub {s : Shared} (v : Vw C V H s) {H' : Led} (h : H'.Sublist H) : Vw C V H' s :=
  ⟨v.fr, fun p hp => v.nw p (h.subset hp), v.nd.sublist (h.map _), v.gens, v.os⟩
theorem Vw.perm {s : Shared} (v : Vw C V H s) {H' : Led} (h : H'.Perm H) : Vw C V H' s :=
  ⟨v.fr, fun p hp => v.nw p (h.subset hp), (h.map (·.1)).nodup_iff.mpr v.nd, v.gens, v.os⟩
theorem Vw.oldNe {s : Shared} (v : Vw C V H s) {p : Addr × Obj} (hp : p ∈ H) : C.h₀.get? p.1 = none := (v.nw p hp).2.2

theorem w_pure {a : α} {Q : α → Vals → Led → Prop} (h : Q a V H) : W C E (pure a) V H Q := .mk fun _ v => wpAny_pure ⟨V, H, v, h⟩
theorem w_bind {m : Sem α} {f : α → Sem β} {Q : β → Vals → Led → Prop} (h : W C E m V H (fun a V' H' => W C E (f a) V' H' Q)) : W C E (m >>= f) V H Q :=
  .mk fun s v => wpAny_bind (wpAny_mono (h.run s v) (fun _ s' ⟨_, _, v', q⟩ => q.run s' v') fun _ _ x => x)
theorem W.mono {t : Sem α} {Q Q' : α → Vals → Led → Prop} (h : W C E t V H Q) (k : ∀ a V' H', Q a V' H' → Q' a V' H') : W C E t V H Q' :=
  .mk fun s v => wpAny_mono (h.run s v) (fun _ _ ⟨V', H', v', q⟩ => ⟨V', H', v', k _ _ _ q⟩) fun _ _ x => x
theorem W.monoE {E' : Value → Vals → Led → Prop} {t : Sem α} {Q : α → Vals → Led → Prop} (h : W C E' t V H Q) (k : ∀ a V' H', E' a V' H' → E a V' H') : W C E t V H Q :=
  .mk fun s v => wpAny_mono (h.run s v) (fun _ _ x => x) fun _ _ ⟨V', H', v', q⟩ => ⟨V', H', v', k _ _ _ q⟩
theorem w_noE {t : Sem α} {Q : α → Vals → Led → Prop} (h : W C NoE t V H Q) : W C E t V H Q := h.monoE fun _ _ _ x => x.elim
theorem w_sub {t : Sem α} {Q : α → Vals → Led → Prop} {H' : Led} (hs : H'.Sublist H) (h : W C E t V H' Q) : W C E t V H Q := .mk fun s v => h.run s (v.sub hs)
theorem w_perm {t : Sem α} {Q : α → Vals → Led → Prop} {H' : Led} (hs : H'.Perm H) (h : W C E t V H' Q) : W C E t V H Q := .mk fun s v => h.run s (v.perm hs)
theorem w_lib {t : Sem α} {Q : α → Vals → Led → Prop} (h : ∀ s, Vw C V H s → ∀ (Q' : α → Shared → Prop) (E' : Value → Shared → Prop), (∀ a s', (∃ V' H', Vw C V' H' s' ∧ Q a V' H') → Q' a s') → wpAny (model prog C.w) C.A t Q' E' s) : W C E t V H Q :=
  .mk fun s v => h s v _ _ fun _ _ x => x
theorem w_looks {t : Sem α} {r : α} {Q : α → Vals → Led → Prop} (h : ∀ s, Vw C V H s → Looks (model prog C.w) s.heap t r) (q : Q r V H) : W C E t V H Q :=
  .mk fun s v => (h s v) _ _ _ s (fun _ _ e => e) ⟨V, H, v, q⟩
theorem w_of_eq {t t' : Sem α} {Q : α → Vals → Led → Prop} (e : t = t') (h : W C E t' V H Q) : W C E t V H Q := e ▸ h
theorem w_standAt {pos : Pos} {Q : Unit → Vals → Led → Prop} (h : Q () V H) : W C E (standAt pos) V H Q := .mk fun _ v => wpAny_standAt ⟨V, H, v, h⟩
theorem w_holding {vs : List Value} {t : Sem α} {Q : α → Vals → Led → Prop} (h : W C E t V H Q) : W C E (holding vs t) V H Q := .mk fun s v => wpAny_holding (h.run s v)
theorem w_point {Q : Unit → Vals → Led → Prop} (h : Q () V H) : W C E point V H Q := .mk fun _ v => wpAny_point ⟨V, H, v, h⟩
theorem w_mkInt {i : Int} {Q : Value → Vals → Led → Prop} (h : ∀ t, Q (.int i t) V H) : W C E (mkInt i) V H Q := .mk fun _ v => wpAny_mkInt ⟨V, H, v.toks _, h _⟩
theorem w_release {vs k : List Value} {Q : Unit → Vals → Led → Prop} (h : Q () V H) : W C E (release vs k) V H Q := .mk fun s v Γ p hΓ => by
  rw [Sem.wp_release]; exact ⟨V, H, v, h⟩
theorem w_operate {vs : List Value} {m : Sem Value} {Q : Value → Vals → Led → Prop} (h : W C E m V H Q) : W C E (operate vs m) V H Q := .mk fun s v Γ p hΓ => by
  rw [Sem.wp_operate]; exact h.run s v Γ p hΓ
theorem w_rule {tag : String} {Q : Unit → Vals → Led → Prop} (h : Q () V H) : W C E (rule tag) V H Q := .mk fun _ v => wpAny_rule ⟨V, H, v, h⟩
theorem w_alloc {o : Obj} {Q : Addr → Vals → Led → Prop} (hf : o.isFreed = false) (h : ∀ a, Q a V ((a, o) :: H)) : W C E (alloc o) V H Q := .mk fun s v =>
  wpAny_alloc ⟨V, _, v.push hf, h _⟩
end
-- part B2
section
variable {F : Fn} {C : Cx F} {E : Value → Vals → Led → Prop} {V : Vals} {H : Led}

/-! statements -/
theorem w_execs_nil {Q : Flow → Vals → Led → Prop} (h : Q .next V H) : W C E (execs [] C.env) V H Q := w_pure h
theorem w_execs_cons {st : Stmt} {rest : List Stmt} {Q : Flow → Vals → Led → Prop}
    (h : W C E (exec st C.env) V H (fun f V' H' => match f with | .next => W C E (execs rest C.env) V' H' Q | f => Q f V' H')) : W C E (execs (st :: rest) C.env) V H Q := by
  rw [execs_cons]
  refine w_bind (h.mono fun f V' H' q => ?_)
  cases f <;> first | exact q | exact w_pure q

theorem w_Return_some {e : Expr} {pos : Pos} {Q : Flow → Vals → Led → Prop} (h : W C E (eval e C.env) V H (fun v V' H' => Q (.ret v) V' H')) : W C E (exec (.Return (some e) pos) C.env) V H Q :=
  w_of_eq (exec_Return_some C.env e pos) (w_bind (w_standAt (w_bind (h.mono fun _ _ _ q => w_pure q))))
theorem w_Return_none {pos : Pos} {Q : Flow → Vals → Led → Prop} (h : Q (.ret .none) V H) : W C E (exec (.Return none pos) C.env) V H Q :=
  w_of_eq (exec_Return_none C.env pos) (w_bind (w_standAt (w_pure h)))
theorem w_Pass {pos : Pos} {Q : Flow → Vals → Led → Prop} (h : Q .next V H) : W C E (exec (.Pass pos) C.env) V H Q := w_bind (w_standAt (w_pure h))
theorem w_Break {pos : Pos} {Q : Flow → Vals → Led → Prop} (h : Q .brk V H) : W C E (exec (.Break pos) C.env) V H Q := w_bind (w_standAt (w_pure h))
theorem w_Continue {pos : Pos} {Q : Flow → Vals → Led → Prop} (h : Q .cont V H) : W C E (exec (.Continue pos) C.env) V H Q := w_bind (w_standAt (w_pure h))
theorem w_If {test : Expr} {body orelse : List Stmt} {pos : Pos} {Q : Flow → Vals → Led → Prop}
    (h : W C E (isTrue test C.env (eval test C.env)) V H (fun b V' H' => (b = true → W C E (execs body C.env) V' H' Q) ∧ (b = false → W C E (execs orelse C.env) V' H' Q))) :
    W C E (exec (.If test body orelse pos) C.env) V H Q := by
  rw [exec_If]
  refine w_bind (w_standAt (w_bind (h.mono fun b V' H' q => ?_)))
  cases b with
  | true => exact q.1 rfl
  | false => exact q.2 rfl

/-- assignment: one target, no swap of stores -/
theorem w_Assign1 {t value : Expr} {pos : Pos} {Q : Flow → Vals → Led → Prop} (hs : swapsWithSole [t] value pos.line C.env = Pure.pure false)
    (hw : swappedStores [t] value C.env = Pure.pure none) (h : W C E (eval value C.env) V H (fun v V' H' => W C E (((assignEach [t] C.env).map (·.2)).headD (fun _ => Pure.pure ()) v) V' H' (fun _ V'' H'' => Q .next V'' H''))) :
    W C E (exec (.Assign [t] value pos) C.env) V H Q := by
  show W C E (do
    standAt pos
    if ← swapsWithSole [t] value pos.line C.env then do
      evalThenUse value C.env fun v => assignAll v ((assignEach [t] C.env).map (·.2))
      Pure.pure .next
    else do
      let v ← eval value C.env
      assignStores C.env v (← swappedStores [t] value C.env) ((assignEach [t] C.env).map (·.2))) V H Q
  rw [hs, hw]
  refine w_bind (w_standAt (w_bind (w_pure ?_)))
  show W C E (do let v ← eval value C.env; _) V H Q
  refine w_bind (h.mono fun v V' H' q => w_bind (w_pure ?_))
  cases t <;> exact w_bind (q.mono fun _ _ _ q' => w_pure q')

theorem w_assign_Name {x : Str} {pos : Pos} {v : Value} {Q : Unit → Vals → Led → Prop} (h : W C E (storeName C.env x v) V H Q) : W C E (assign (.Name x pos) C.env v) V H Q :=
  .mk fun s vw => wpAny_assign_Name (h.run s vw)

theorem slot_get {names : List Str} {V : Vals} {i : Nat} {x : Str} {v : Value} (hn : names.Nodup) (hi : names[i]? = some x) (hv : V[i]? = some (some v)) : slot names V x = some v := by
  induction names generalizing V i with
  | nil => cases hi
  | cons y r ih =>
    cases V with
    | nil => cases hv
    | cons a V =>
      cases i with
      | zero => cases hi; cases hv; unfold slot; simp [List.zip_cons_cons, List.lookup_cons]
      | succ i =>
        have hi' : r[i]? = some x := by simpa using hi
        have hv' : V[i]? = some (some v) := by simpa using hv
        have ne : (x == y) = false := by
          rw [beq_eq_false_iff_ne]
          rintro rfl
          exact (List.nodup_cons.mp hn).1 (List.mem_of_getElem? hi')
        have := ih (List.nodup_cons.mp hn).2 hi' hv'
        unfold slot at this ⊢
        rw [List.zip_cons_cons, List.lookup_cons, ne]
        exact this
theorem slot_set {names : List Str} {V : Vals} {i : Nat} {x : Str} {v : Value} (hn : names.Nodup) (hi : names[i]? = some x) (hl : i < V.length) :
    slot names (V.set i (some v)) = fun y => if y = x then some v else slot names V y := by
  induction names generalizing V i with
  | nil => cases hi
  | cons y r ih =>
    cases V with
    | nil => exact absurd hl (Nat.not_lt_zero _)
    | cons a V =>
      cases i with
      | zero =>
        obtain rfl : y = x := by simpa using hi
        funext z
        unfold slot
        simp only [List.set_cons_zero, List.zip_cons_cons, List.lookup_cons]
        by_cases q : z = y
        · subst q; simp
        · have : (z == y) = false := by rw [beq_eq_false_iff_ne]; exact q
          simp [this, q]
      | succ i =>
        have hi' : r[i]? = some x := by simpa using hi
        have := ih (V := V) (List.nodup_cons.mp hn).2 hi' (by simpa using hl)
        have nyx : y ≠ x := by
          rintro rfl
          exact (List.nodup_cons.mp hn).1 (List.mem_of_getElem? hi')
        funext z
        have tz := congrFun this z
        unfold slot at tz ⊢
        simp only [List.set_cons_succ, List.zip_cons_cons, List.lookup_cons]
        by_cases q : z = y
        · subst q; simp [nyx]
        · have : (z == y) = false := by rw [beq_eq_false_iff_ne]; exact q
          simp only [this]
          exact tz

/-- V' is V with v at the i-th place -/
inductive SetAt (v : Value) : Nat → Vals → Vals → Prop
  | z {o : Option Value} {l : Vals} : SetAt v 0 (o :: l) (some v :: l)
  | s {o : Option Value} {i : Nat} {l l' : Vals} : SetAt v i l l' → SetAt v (i + 1) (o :: l) (o :: l')
theorem SetAt.eq {v : Value} {i : Nat} {l l' : Vals} (h : SetAt v i l l') : l' = l.set i (some v) ∧ i < l.length := by
  induction h with
  | z => exact ⟨rfl, Nat.succ_pos _⟩
  | s _ ih => exact ⟨by rw [List.set_cons_succ, ih.1], Nat.succ_lt_succ ih.2⟩

theorem w_store (ok : FnOk F) {i : Nat} {x : Str} {v : Value} {V' : Vals} {Q : Unit → Vals → Led → Prop} (hi : F.names[i]? = some x) (hs : SetAt v i V V') (h : Q () V' H) : W C E (storeName C.env x v) V H Q := .mk fun s vw => by
  obtain ⟨rfl, hl⟩ := hs.eq
  refine wpAny_storeName_local ((ok.env_kind C x).trans (ok.loc _ (List.mem_of_getElem? hi))) (by rw [ok.env_locals]; exact vw.fr.ns) (fun h' hn hsb => ?_) ?_
  · rw [ok.env_locals] at hn hsb
    refine ⟨_, H, ⟨?_, vw.nw.set hsb, vw.nd, vw.gens, vw.os⟩, h⟩
    rw [slot_set ok.nd hi hl]; exact vw.fr.set hn hsb
  · rw [ok.env_fun]; rfl

/-! names -/
theorem w_Name_local (ok : FnOk F) {i : Nat} {x : Str} {pos : Pos} {v : Value} {Q : Value → Vals → Led → Prop} (hi : F.names[i]? = some x) (hv : V[i]? = some (some v)) (h : Q v V H) :
    W C E (eval (.Name x pos) C.env) V H Q := .mk fun s vw =>
  wpAny_Name (wpAny_loadName_local (ok.env_fun C) ((ok.env_kind C x).trans (ok.loc _ (List.mem_of_getElem? hi))) (by rw [ok.env_locals]; exact vw.fr.ns) (slot_get ok.nd hi hv) ⟨V, H, vw, h⟩) (ok.dbg _ (List.mem_of_getElem? hi))
theorem w_load_local (ok : FnOk F) {i : Nat} {x : Str} {v : Value} {Q : Value → Vals → Led → Prop} (hi : F.names[i]? = some x) (hv : V[i]? = some (some v)) (h : Q v V H) :
    W C E (loadName C.env x) V H Q := .mk fun s vw =>
  wpAny_loadName_local (ok.env_fun C) ((ok.env_kind C x).trans (ok.loc _ (List.mem_of_getElem? hi))) (by rw [ok.env_locals]; exact vw.fr.ns) (slot_get ok.nd hi hv) ⟨V, H, vw, h⟩

theorem w_Name_global (ok : FnOk F) {x : Str} {pos : Pos} {v : Value} {Q : Value → Vals → Led → Prop} (hx : F.fd.scope.names.lookup x = some .globalImplicit) (hv : nsIn (KF C.w) mainGlobals x = some (some v)) (h : Q v V H)
    (hd : (x == ("__debug__" : Str)) = false := by decide) : W C E (eval (.Name x pos) C.env) V H Q := .mk fun s vw => by
  obtain ⟨mg, hn⟩ := vw.base.g
  exact Name_function_global (ok.env_fun C) ((ok.env_kind C x).trans hx) (loadGlobal_global (env := C.env) (by rw [ok.env_globals]; exact hn) (mg_of vw.base.kin hn hv) ⟨V, H, vw, h⟩) hd
theorem w_Name_builtin (ok : FnOk F) {x : Str} {pos : Pos} {v : Value} {Q : Value → Vals → Led → Prop} (hx : F.fd.scope.names.lookup x = some .globalImplicit) (hm : nsIn (KF C.w) mainGlobals x = some none) (hb : bootBuiltins x = some v) (hn : x ≠ "__name__") (h : Q v V H)
    (hd : (x == ("__debug__" : Str)) = false := by decide) : W C E (eval (.Name x pos) C.env) V H Q := .mk fun s vw => by
  obtain ⟨mg, hg⟩ := vw.base.g
  obtain ⟨mb, hbn, hbe⟩ := vw.base.bi
  exact Name_function_global (ok.env_fun C) ((ok.env_kind C x).trans hx) (loadGlobal_builtin (env := C.env) (by rw [ok.env_globals]; exact hg) (mg_none_of vw.base.kin hg hm) (by rw [ok.env_builtins]; exact hbn) ((hbe _ hn).trans hb) ⟨V, H, vw, h⟩) hd
end
-- part B3
noncomputable abbrev keys (P : Led) : List Addr := P.map (·.1)

structure StepTo (own : List Addr) (s s' : Shared) (P' : Led) : Prop where
  keep : ∀ a o, s.heap.get? a = some o → a ∉ own → s'.heap.get? a = some o
  led : ∀ p ∈ P', s'.heap.get? p.1 = some p.2 ∧ (p.1 ∈ own ∨ s.heap.get? p.1 = none)
  nd : (keys P').Nodup
  gens : GensOk s.gens s'.gens
  os : s'.os = s.os

/-- what a call asks of the state: P is handed over, the rest (pre) is read -/
structure Pre (w : World) (n : Nat) (P : Led) (pre : Heap → Prop) (A : Around) (s : Shared) : Prop where
  aok : AOk n A
  base : Base w (hideAll s.heap (keys P))
  led : ∀ p ∈ P, s.heap.get? p.1 = some p.2
  nd : (keys P).Nodup
  pre : pre (hideAll s.heap (keys P))

/-- the contract of a call -/
noncomputable def Sp (w : World) (n : Nat) (t : Sem Value) (P : Led) (pre : Heap → Prop) (Q : Value → Led → Prop) (X : Value → Led → Prop) : Prop :=
  ∀ A s, Pre w n P pre A s → wpAny (model prog w) A t (fun v s' => ∃ P', StepTo (keys P) s s' P' ∧ Q v P') (fun e s' => ∃ P', StepTo (keys P) s s' P' ∧ X e P') s

noncomputable def NoX : Value → Led → Prop := fun _ _ => False

theorem Sp.mono {w : World} {n m : Nat} {t : Sem Value} {P : Led} {pre : Heap → Prop} {Q Q' X X' : Value → Led → Prop} (h : Sp w n t P pre Q X) (hn : n ≤ m) (k : ∀ v P', Q v P' → Q' v P') (kx : ∀ v P', X v P' → X' v P') : Sp w m t P pre Q' X' :=
  fun A s p => wpAny_mono (h A s ⟨⟨p.aok.hnd, by have := p.aok.dep; omega, by have := p.aok.uni; omega, p.aok.fr, p.aok.gd⟩, p.base, p.led, p.nd, p.pre⟩) (fun _ _ ⟨P', a, b⟩ => ⟨P', a, k _ _ b⟩) fun _ _ ⟨P', a, b⟩ => ⟨P', a, kx _ _ b⟩

theorem AOk.deeper {n : Nat} {A : Around} (h : AOk (n + 1) A) (env : Env) : AOk n (A.deeper env) :=
  ⟨h.hnd, by have := h.dep; show A.depth + 1 + n ≤ 900; omega, by have := h.uni; show A.units + 3 + 8 * n ≤ 9000; omega, let ⟨l, e⟩ := h.fr; ⟨env :: l, by show A.frames.map _ = _; rw [e]; rfl⟩, h.gd⟩

theorem revlook {x : Str} : ∀ {names : List Str} {args : List Value}, names.Nodup → args.length ≤ names.length →
    ((names.take args.length).zip args).reverse.lookup x = slot names (args.map some ++ List.replicate (names.length - args.length) none) x := by
  have none_of : ∀ {names : List Str} {V : Vals} {x : Str}, x ∉ names → slot names V x = none := by
    intro names
    induction names with
    | nil => intros; rfl
    | cons y r ih =>
      intro V x hx
      cases V with
      | nil => rfl
      | cons a V =>
        have ne : (x == y) = false := by rw [beq_eq_false_iff_ne]; exact fun e => hx (e ▸ List.mem_cons_self)
        have := ih (V := V) (x := x) fun hm => hx (List.mem_cons_of_mem _ hm)
        unfold slot at this ⊢
        rw [List.zip_cons_cons, List.lookup_cons, ne]
        exact this
  have rep : ∀ (names : List Str) (k : Nat) (x : Str), slot names (List.replicate k none) x = none := by
    intro names
    induction names with
    | nil => intros; rfl
    | cons y r ih =>
      intro k x
      cases k with
      | zero => rfl
      | succ k =>
        have := ih k x
        unfold slot at this ⊢
        rw [List.replicate_succ, List.zip_cons_cons, List.lookup_cons]
        cases (x == y) with
        | true => rfl
        | false => exact this
  have app : ∀ (l : List (Str × Value)) (y : Str) (v : Value), (l ++ [(y, v)]).lookup x = (l.lookup x).or (if x = y then some v else none) := by
    intro l y v
    induction l with
    | nil =>
      by_cases q : x = y
      · simp [List.lookup_cons, q]
      · have : (x == y) = false := by rw [beq_eq_false_iff_ne]; exact q
        simp [List.lookup_cons, q, this]
    | cons p l ih =>
      obtain ⟨a, b⟩ := p
      simp only [List.cons_append, List.lookup_cons]
      cases (x == a) with
      | true => rfl
      | false => exact ih
  intro names
  induction names with
  | nil =>
    intro args _ hl
    cases args with
    | nil => rfl
    | cons a r => cases hl
  | cons y r ih =>
    intro args hn hl
    cases args with
    | nil => simp only [List.length_nil, List.take_zero, List.zip_nil_left, List.reverse_nil, List.lookup_nil, List.map_nil, List.nil_append, Nat.sub_zero]; exact (rep _ _ _).symm
    | cons a args =>
      have hr := (List.nodup_cons.mp hn)
      have ih' := ih (args := args) hr.2 (Nat.le_of_succ_le_succ hl)
      simp only [List.length_cons, List.take_succ_cons, List.zip_cons_cons, List.reverse_cons, List.map_cons, List.cons_append, Nat.add_sub_add_right]
      rw [app, ih']
      unfold slot
      rw [List.zip_cons_cons, List.lookup_cons]
      by_cases q : x = y
      · subst q
        have := none_of (V := List.map some args ++ List.replicate (r.length - args.length) none) hr.1
        unfold slot at this
        rw [this]
        simp
      · have : (x == y) = false := by rw [beq_eq_false_iff_ne]; exact q
        rw [this]
        simp only [q, if_false, Option.or_none]

section
variable {F : Fn}

structure FnIs (w : World) (F : Fn) : Prop where
  ok : FnOk F
  at_ : (KF w).lookup F.addr = some ⟨.type "function", none, .func F.fd, #[]⟩
  cd : codeIn (KF w) F.fd.code F.fd.qualname = true
  co : F.fd.scope.isCoroutine = false
  cell : (F.fd.scope.names.all fun x => x.2 != .cell) = true
  mk_ : F.mkE = fun L _ => callEnv F.fd L F.addr

noncomputable def Cx.enter {w : World} {n : Nat} {P : Led} {pre : Heap → Prop} {A : Around} {s : Shared} (F : Fn) (p : Pre w (n + 1) P pre A s) : Cx F :=
  { w, A := A.deeper (callEnv F.fd s.heap.objs.size F.addr), L := s.heap.objs.size, h₀ := hideAll s.heap (keys P), g₀ := s.gens, os₀ := s.os, n, aok := p.aok.deeper _, base := p.base }

theorem Vw.step {C : Cx F} {own : List Addr} {s s' : Shared} {V : Vals} {H : Led} (v : Vw C V H s') (h : C.h₀ = hideAll s.heap own) (g : C.g₀ = s.gens) (o : C.os₀ = s.os) : StepTo own s s' H :=
  ⟨fun a ob e n => v.fr.keep _ _ (h ▸ hideAll_get _ e n), fun p hp => ⟨(v.nw p hp).1, by
    by_cases q : p.1 ∈ own
    · exact .inl q
    · refine .inr ?_
      cases e : s.heap.get? p.1 with
      | none => rfl
      | some ob =>
        have := (v.nw p hp).2.2
        rw [h, hideAll_get _ e q] at this
        cases this⟩, v.nd, g ▸ v.gens, v.os.trans o⟩

/-- a def of the text, called: its body, walked -/
theorem Sp.def {w : World} {n : Nat} {P : Led} {pre : Heap → Prop} {Q : Value → Led → Prop} {body : List Stmt} {args : List Value} {kw : List (Str × Value)} {vals : List Value} {V₀ : Vals}
    (hF : FnIs w F) (hbody : F.fd.body = .stmts body) (hgen : F.fd.scope.isGenerator = false)
    (hbind : ∀ s A, Pre w (n + 1) P pre A s → BindsTo s F.fd ⟨args, kw⟩ ((F.names.take vals.length).zip vals)) (hl : vals.length ≤ F.names.length) (hV : vals.map some ++ List.replicate (F.names.length - vals.length) none = V₀)
    (h : ∀ C : Cx F, C.w = w → C.n = n → pre C.h₀ → W C NoE (execs body C.env) V₀ P (fun f _ H' => Q (match f with | .ret v => v | _ => .none) H')) :
    Sp w (n + 1) (call (.ref F.addr) args kw) P pre Q NoX := fun A s p => by
  refine wpAny_call ?_
  have nm : ∀ b o, (hideAll s.heap (keys P)).get? b = some o → s.heap.get? b = some o := fun _ _ e => of_hideAll _ e
  have B := p.base.keeps nm
  refine codeAny_call_def (fd := F.fd) (body := body) (binds := (F.names.take vals.length).zip vals) (by have := p.aok.dep; show A.depth < 1000; omega) (B.kin _ _ hF.at_) rfl B.lim (codeRec_of B.kin hF.cd) hbody (hbind s A p)
    (fun x hx e => by have := List.all_eq_true.mp hF.cell x hx; rw [e] at this; cases this) (fun x hx => hF.ok.loc _ (List.mem_of_mem_take (List.of_mem_zip (a := x.1) (b := x.2) hx).1)) (fun h₁ hns hk => ?_) hF.co hgen hF.ok.kind
  have key := (h (Cx.enter F p) rfl rfl p.pre).run { s with heap := h₁, toks := s.toks + ((F.names.take vals.length).zip vals).length } (by
    refine ⟨⟨?_, fun b o e => hk b o (nm b o e), Nat.le_of_eq (hideAll_size _ _)⟩, fun q hq => ⟨hk _ _ (p.led q hq), Nat.ne_of_lt (Heap.lt_size (p.led q hq)), hideAll_none _ (List.mem_map_of_mem hq)⟩, p.nd, .refl _, rfl⟩
    have e : (fun x => ((F.names.take vals.length).zip vals).reverse.lookup x) = slot F.names V₀ := funext fun x => by rw [revlook hF.ok.nd hl, hV]
    rw [e] at hns
    exact hns)
  rw [show (Cx.enter F p).env = callEnv F.fd s.heap.objs.size F.addr from congrFun (congrFun hF.mk_ _) _] at key
  refine wpAny_mono key (fun f s' ⟨V', H', v', q⟩ => ?_) fun e s' ⟨_, _, _, x⟩ => x.elim
  have st := v'.step (s := s) (own := keys P) rfl rfl rfl
  cases f <;> exact ⟨H', st, q⟩

/-- facts at hand: of the ledger, or of what stood -/
noncomputable def Has (C : Cx F) (H : Led) (a : Addr) (o : Obj) : Prop := (a, o) ∈ H ∨ C.h₀.get? a = some o
theorem Has.at {C : Cx F} {V : Vals} {H : Led} {s : Shared} {a : Addr} {o : Obj} (h : Has C H a o) (v : Vw C V H s) : s.heap.get? a = some o := h.elim v.at v.old

theorem AOk.le {n m : Nat} {A : Around} (h : AOk n A) (k : m ≤ n) : AOk m A := ⟨h.hnd, by have := h.dep; omega, by have := h.uni; omega, h.fr, h.gd⟩

theorem w_spx {C : Cx F} {m : Nat} {t : Sem Value} {P R : Led} {V : Vals} {H : Led} {pre : Heap → Prop} {Qs Xs : Value → Led → Prop} {E : Value → Vals → Led → Prop} {Q : Value → Vals → Led → Prop}
    (hsp : Sp C.w m t P pre Qs Xs) (hm : m ≤ C.n) (hH : H.Perm (P ++ R)) (hpre : ∀ h : Heap, (∀ a o, Has C R a o → h.get? a = some o) → pre h) (h : ∀ v P', Qs v P' → Q v V (P' ++ R)) (hx : ∀ e P', Xs e P' → E e V (P' ++ R)) :
    W C E t V H Q := w_perm hH.symm <| .mk fun s v => by
  have nk : ∀ p ∈ R, p.1 ∉ keys P := fun p hp hm => by
    have := v.nd
    rw [List.map_append, List.nodup_append] at this
    exact this.2.2 _ hm _ (List.mem_map_of_mem hp) rfl
  have nb : ∀ a o, C.h₀.get? a = some o → a ∉ keys P := fun a o e hm => by
    obtain ⟨p, hp, rfl⟩ := List.mem_map.mp hm
    have := v.oldNe (List.mem_append_left R hp)
    rw [this] at e; cases e
  have hid : ∀ a o, Has C R a o → (hideAll s.heap (keys P)).get? a = some o := fun a o x => by
    rcases x with x | x
    · exact hideAll_get _ (v.at (List.mem_append_right P x)) (nk _ x)
    · exact hideAll_get _ (v.old x) (nb _ _ x)
  have pr : Pre C.w m P pre C.A s := ⟨C.aok.le hm, C.base.keeps fun a o e => hid a o (.inr e), fun p hp => v.at (List.mem_append_left R hp), (List.nodup_append.mp (by have := v.nd; rw [List.map_append] at this; exact this)).1, hpre _ hid⟩
  have back : ∀ s' P', StepTo (keys P) s s' P' → Vw C V (P' ++ R) s' := fun s' P' st => by
    obtain ⟨oL, es, ep, hL, r⟩ := v.fr.ns
    have nL : C.L ∉ keys P := fun hm => by
      obtain ⟨p, hp, e⟩ := List.mem_map.mp hm
      exact (v.nw p (List.mem_append_left R hp)).2.1 e
    refine ⟨⟨⟨oL, es, ep, st.keep _ _ hL nL, r⟩, fun b o e => st.keep _ _ (v.old e) (nb _ _ e), v.fr.above⟩, fun p hp => ?_, ?_, v.gens.trans st.gens, st.os.trans v.os⟩
    · rcases List.mem_append.mp hp with q | q
      · obtain ⟨g, z⟩ := st.led p q
        refine ⟨g, fun e => ?_, ?_⟩
        · rcases z with z | z
          · exact nL (e ▸ z)
          · rw [e, hL] at z; cases z
        · rcases z with z | z
          · obtain ⟨p', hp', e'⟩ := List.mem_map.mp z
            have e2 : p'.1 = p.1 := e'
            exact e2 ▸ v.oldNe (List.mem_append_left R hp')
          · cases q' : C.h₀.get? p.1 with
            | none => rfl
            | some o => rw [v.old q'] at z; cases z
      · have y := v.nw p (List.mem_append_right P q)
        exact ⟨st.keep _ _ y.1 (nk p q), y.2⟩
    · rw [List.map_append, List.nodup_append]
      refine ⟨st.nd, (List.nodup_append.mp (by have := v.nd; rw [List.map_append] at this; exact this)).2.1, fun a ha b hb e => ?_⟩
      subst e
      obtain ⟨p, hp, rfl⟩ := List.mem_map.mp ha
      obtain ⟨q, hq, e⟩ := List.mem_map.mp hb
      rcases (st.led p hp).2 with z | z
      · exact nk q hq (e ▸ z)
      · have y := v.at (List.mem_append_right P hq)
        have e2 : q.1 = p.1 := e
        rw [e2, z] at y
        cases y
  exact wpAny_mono (hsp C.A s pr) (fun a s' ⟨P', st, q⟩ => ⟨V, _, back s' P' st, h a P' q⟩) fun e s' ⟨P', st, x⟩ => ⟨V, _, back s' P' st, hx e P' x⟩

/-- a call by its contract, without a raise -/
theorem w_sp {C : Cx F} {m : Nat} {t : Sem Value} {P R : Led} {V : Vals} {H : Led} {pre : Heap → Prop} {Qs : Value → Led → Prop} {E : Value → Vals → Led → Prop} {Q : Value → Vals → Led → Prop}
    (hsp : Sp C.w m t P pre Qs NoX) (hm : m ≤ C.n) (hH : H.Perm (P ++ R)) (hpre : ∀ h : Heap, (∀ a o, Has C R a o → h.get? a = some o) → pre h) (h : ∀ v P', Qs v P' → Q v V (P' ++ R)) :
    W C E t V H Q := w_spx hsp hm hH hpre h fun _ _ x => x.elim
end
-- part B4
section
variable {F : Fn} {C : Cx F} {E : Value → Vals → Led → Prop} {V : Vals} {H : Led}

theorem W.bind2 {α β : Type} {m : Sem α} {f : α → Sem β} {Q : β → Vals → Led → Prop} (h : W C E m V H (fun a V' H' => W C E (f a) V' H' Q)) : W C E (m >>= f) V H Q := w_bind h

/-! constants -/
theorem w_int {i : Int} {k : Nat} {pos : Pos} {Q : Value → Vals → Led → Prop} (h : ∀ t, Q (.int i t) V H) : W C E (eval (.Constant (.int i) k pos) C.env) V H Q := w_mkInt h
theorem w_str {x : Str} {k : Nat} {pos : Pos} {Q : Value → Vals → Led → Prop} (h : ∀ t, Q (.str x t) V H) : W C E (eval (.Constant (.str x) k pos) C.env) V H Q :=
  .mk fun s v => Constant_str ⟨V, H, v.toks _, h _⟩
theorem w_bytes {x : List UInt8} {k : Nat} {pos : Pos} {Q : Value → Vals → Led → Prop} (h : ∀ t, Q (.bytes x.toArray t) V H) : W C E (eval (.Constant (.bytes x) k pos) C.env) V H Q :=
  .mk fun s v Γ p hΓ => ⟨V, H, v.toks _, h _⟩
theorem w_bool {b : Bool} {k : Nat} {pos : Pos} {Q : Value → Vals → Led → Prop} (h : Q (.bool b) V H) : W C E (eval (.Constant (.bool b) k pos) C.env) V H Q :=
  .mk fun s v => Constant_bool ⟨V, H, v, h⟩
theorem w_none {k : Nat} {pos : Pos} {Q : Value → Vals → Led → Prop} (h : Q .none V H) : W C E (eval (.Constant .none k pos) C.env) V H Q :=
  .mk fun s v => Constant_none ⟨V, H, v, h⟩

/-! operators -/
theorem w_BinOp {l r : Expr} {op : Operator} {pos : Pos} {Q : Value → Vals → Led → Prop} (h : W C E (eval l C.env) V H (fun a V1 H1 => W C E (eval r C.env) V1 H1 (fun b V2 H2 => W C E (binaryOp op a b) V2 H2 Q))) : W C E (eval (.BinOp l op r pos) C.env) V H Q :=
  w_of_eq (eval_BinOp C.env l op r pos) (w_bind (h.mono fun _ _ _ q => w_bind (w_holding (q.mono fun _ _ _ q => w_bind (w_standAt (w_operate q))))))
theorem w_Compare {l r : Expr} {op : CmpOp} {pos : Pos} {Q : Value → Vals → Led → Prop} (h : W C E (eval l C.env) V H (fun a V1 H1 => W C E (eval r C.env) V1 H1 (fun b V2 H2 => W C E (compareOp op a b) V2 H2 Q))) (hm : behindInMarks op r = false := by kernel_rfl) :
    W C E (eval (.Compare l [op] [r] pos) C.env) V H Q := by
  rw [eval_Compare1, markedBehindIn_of_false hm]
  exact w_bind (h.mono fun _ _ _ q => w_bind (w_holding (q.mono fun _ _ _ q => w_bind (w_standAt (w_operate q)))))
theorem w_isTrue_Compare {l r : Expr} {op : CmpOp} {pos : Pos} {whole : Sem Value} {Q : Bool → Vals → Led → Prop} (h : W C E (eval l C.env) V H (fun a V1 H1 => W C E (eval r C.env) V1 H1 (fun b V2 H2 => W C E (compareOp op a b) V2 H2 (fun c V3 H3 => W C E (truthy c) V3 H3 Q)))) (hm : behindInMarks op r = false := by kernel_rfl) :
    W C E (isTrue (.Compare l [op] [r] pos) C.env whole) V H Q := by
  rw [isTrue_Compare1, markedBehindIn_of_false hm]
  exact w_bind (h.mono fun _ _ _ q => w_bind (w_holding (q.mono fun _ _ _ q => w_bind (w_standAt (w_bind ((w_operate q).mono fun _ _ _ q => w_holding q))))))
theorem w_isTrue_Compare2 {l r r2 : Expr} {op op2 : CmpOp} {pos : Pos} {whole : Sem Value} {Q : Bool → Vals → Led → Prop} (h : W C E (eval l C.env) V H (fun a V1 H1 => W C E (eval r C.env) V1 H1 (fun b V2 H2 => W C E (compareOp op a b) V2 H2 (fun c V3 H3 => W C E (truthy c) V3 H3 (fun t V4 H4 =>
      (t = true → W C E (eval r2 C.env) V4 H4 (fun b2 V5 H5 => W C E (compareOp op2 b b2) V5 H5 (fun c V6 H6 => W C E (truthy c) V6 H6 Q))) ∧ (t = false → Q false V4 H4)))))) (hm : behindInMarks op2 r2 = false := by kernel_rfl) :
    W C E (isTrue (.Compare l [op, op2] [r, r2] pos) C.env whole) V H Q := by
  show W C E (do testChain pos (← eval l C.env) [op, op2] (markedEach [op, op2] [r, r2] (evalEach [r, r2] C.env))) V H Q
  have e : markedEach [op, op2] [r, r2] (evalEach [r, r2] C.env) = [eval r C.env, eval r2 C.env] := by
    show [eval r C.env, markedBehindIn op2 r2 (eval r2 C.env)] = _
    rw [markedBehindIn_of_false hm]
  rw [e]
  refine w_bind (h.mono fun a V1 H1 q => ?_)
  show W C E (do
    let rv ← holding [a] (eval r C.env)
    standAt pos
    let c ← holding [a, rv] (compareOp op a rv)
    release [a, rv] [c]
    if ← holding [c, rv] (truthy c) then testChain pos rv [op2] [eval r2 C.env] else Pure.pure false) V1 H1 Q
  refine w_bind (w_holding (q.mono fun b V2 H2 q => w_bind (w_standAt (w_bind (w_holding (q.mono fun c V3 H3 q => w_bind (w_release (w_bind (w_holding (q.mono fun t V4 H4 q => ?_))))))))))
  cases t with
  | false => exact w_pure (q.2 rfl)
  | true =>
    show W C E (do
      let rv ← holding [b] (eval r2 C.env)
      standAt pos
      let c ← operate [b, rv] (compareOp op2 b rv)
      holding [c] (truthy c)) V4 H4 Q
    exact w_bind (w_holding ((q.1 rfl).mono fun b2 V5 H5 q => w_bind (w_standAt (w_bind ((w_operate q).mono fun c V6 H6 q => w_holding q)))))
theorem w_isTrue_plain {e : Expr} {whole : Sem Value} {Q : Bool → Vals → Led → Prop} (h : W C E whole V H (fun v V1 H1 => W C E (truthy v) V1 H1 Q))
    (he : isTrue e C.env whole = (do let v ← whole; standAt e.pos; holding [v] (truthy v)) := by kernel_rfl) : W C E (isTrue e C.env whole) V H Q := by
  rw [he]
  exact w_bind (h.mono fun _ _ _ q => w_bind (w_standAt (w_holding q)))
theorem w_isTrue_not {x : Expr} {pos : Pos} {whole : Sem Value} {Q : Bool → Vals → Led → Prop} (h : W C E (isTrue x C.env (eval x C.env)) V H (fun c V1 H1 => Q (!c) V1 H1)) : W C E (isTrue (.UnaryOp .Not x pos) C.env whole) V H Q :=
  (w_bind (h.mono fun _ _ _ q => w_pure q) : W C E (do return !(← isTrue x C.env (eval x C.env))) V H Q)
theorem w_isTrue_and_nil {pos : Pos} {whole : Sem Value} {Q : Bool → Vals → Led → Prop} (h : Q true V H) : W C E (isTrue (.BoolOp .And [] pos) C.env whole) V H Q := w_pure (a := true) h
theorem w_isTrue_or_nil {pos : Pos} {whole : Sem Value} {Q : Bool → Vals → Led → Prop} (h : Q false V H) : W C E (isTrue (.BoolOp .Or [] pos) C.env whole) V H Q := w_pure (a := false) h
theorem w_isTrue_and {x : Expr} {rest : List Expr} {pos : Pos} {whole : Sem Value} {Q : Bool → Vals → Led → Prop}
    (h : W C E (isTrue x C.env (eval x C.env)) V H (fun c V1 H1 => (c = true → W C E (isTrue (.BoolOp .And rest pos) C.env whole) V1 H1 Q) ∧ (c = false → Q false V1 H1))) : W C E (isTrue (.BoolOp .And (x :: rest) pos) C.env whole) V H Q := by
  show W C E (do
    match BoolOp.And, ← isTrue x C.env (eval x C.env) with
    | .And, false => Pure.pure false
    | .Or, true => Pure.pure true
    | _, _ => allTrue .And rest C.env) V H Q
  refine w_bind (h.mono fun c _ _ q => ?_)
  cases c with
  | false => exact w_pure (q.2 rfl)
  | true => exact q.1 rfl
theorem w_isTrue_or {x : Expr} {rest : List Expr} {pos : Pos} {whole : Sem Value} {Q : Bool → Vals → Led → Prop}
    (h : W C E (isTrue x C.env (eval x C.env)) V H (fun c V1 H1 => (c = true → Q true V1 H1) ∧ (c = false → W C E (isTrue (.BoolOp .Or rest pos) C.env whole) V1 H1 Q))) : W C E (isTrue (.BoolOp .Or (x :: rest) pos) C.env whole) V H Q := by
  show W C E (do
    match BoolOp.Or, ← isTrue x C.env (eval x C.env) with
    | .And, false => Pure.pure false
    | .Or, true => Pure.pure true
    | _, _ => allTrue .Or rest C.env) V H Q
  refine w_bind (h.mono fun c _ _ q => ?_)
  cases c with
  | false => exact q.2 rfl
  | true => exact w_pure (q.1 rfl)
theorem w_IfExp {test body orelse : Expr} {pos : Pos} {Q : Value → Vals → Led → Prop}
    (h : W C E (isTrue test C.env (eval test C.env)) V H (fun c V1 H1 => (c = true → W C E (eval body C.env) V1 H1 Q) ∧ (c = false → W C E (eval orelse C.env) V1 H1 Q))) : W C E (eval (.IfExp test body orelse pos) C.env) V H Q := by
  rw [eval_IfExp]
  refine w_bind (h.mono fun c _ _ q => ?_)
  cases c with
  | false => exact q.2 rfl
  | true => exact q.1 rfl
theorem w_BoolOr {e₁ e₂ : Expr} {rest : List Expr} {pos : Pos} {Q : Value → Vals → Led → Prop}
    (h : W C E (eval e₁ C.env) V H (fun v V1 H1 => W C E (truthy v) V1 H1 (fun c V2 H2 => (c = true → Q v V2 H2) ∧ (c = false → W C E (eval (.BoolOp .Or (e₂ :: rest) pos) C.env) V2 H2 Q)))) :
    W C E (eval (.BoolOp .Or (e₁ :: e₂ :: rest) pos) C.env) V H Q := by
  show W C E (do
    let v ← eval e₁ C.env
    standAt pos
    let c ← holding [v] (truthy v)
    match BoolOp.Or, c with
    | .And, false | .Or, true => Pure.pure v
    | _, _ => boolOp pos .Or (eval e₂ C.env :: evalEach rest C.env)) V H Q
  refine w_bind (h.mono fun v V1 H1 q => w_bind (w_standAt (w_bind (w_holding (q.mono fun c V2 H2 q => ?_)))))
  cases c with
  | false => exact q.2 rfl
  | true => exact w_pure (q.1 rfl)
theorem w_Bool1 {op : BoolOp} {e : Expr} {pos : Pos} {Q : Value → Vals → Led → Prop} (h : W C E (eval e C.env) V H Q) : W C E (eval (.BoolOp op [e] pos) C.env) V H Q := h
theorem w_BoolAnd {e₁ e₂ : Expr} {rest : List Expr} {pos : Pos} {Q : Value → Vals → Led → Prop}
    (h : W C E (eval e₁ C.env) V H (fun v V1 H1 => W C E (truthy v) V1 H1 (fun c V2 H2 => (c = false → Q v V2 H2) ∧ (c = true → W C E (eval (.BoolOp .And (e₂ :: rest) pos) C.env) V2 H2 Q)))) :
    W C E (eval (.BoolOp .And (e₁ :: e₂ :: rest) pos) C.env) V H Q := by
  show W C E (do
    let v ← eval e₁ C.env
    standAt pos
    let c ← holding [v] (truthy v)
    match BoolOp.And, c with
    | .And, false | .Or, true => Pure.pure v
    | _, _ => boolOp pos .And (eval e₂ C.env :: evalEach rest C.env)) V H Q
  refine w_bind (h.mono fun v V1 H1 q => w_bind (w_standAt (w_bind (w_holding (q.mono fun c V2 H2 q => ?_)))))
  cases c with
  | false => exact w_pure (q.1 rfl)
  | true => exact q.2 rfl
theorem w_Unary {op : UnaryOp} {x : Expr} {pos : Pos} {Q : Value → Vals → Led → Prop} (h : W C E (eval x C.env) V H (fun v V1 H1 => W C E (unaryOp op v) V1 H1 Q)) : W C E (eval (.UnaryOp op x pos) C.env) V H Q := by
  rw [eval_UnaryOp]
  exact w_bind (h.mono fun _ _ _ q => w_bind (w_standAt (w_holding q)))

/-! truth of values -/
theorem w_truthy_bool {b : Bool} {Q : Bool → Vals → Led → Prop} (h : Q b V H) : W C E (truthy (.bool b)) V H Q := .mk fun s v => wpAny_truthy_bool ⟨V, H, v, h⟩
theorem w_truthy_none {Q : Bool → Vals → Led → Prop} (h : Q false V H) : W C E (truthy .none) V H Q := .mk fun s v => truthy_none ⟨V, H, v, h⟩

/-! items in a row -/
theorem w_spliced_nil {Q : List Value → Vals → Led → Prop} (h : Q [] V H) : W C E (spliced []) V H Q := w_pure h
theorem w_spliced_cons {x : Sem Value} {rest : List (Bool × Sem Value)} {Q : List Value → Vals → Led → Prop}
    (h : W C E x V H (fun v V1 H1 => W C E (spliced rest) V1 H1 (fun vs V2 H2 => Q (v :: vs) V2 H2))) : W C E (spliced ((false, x) :: rest)) V H Q := by
  rw [spliced]
  refine w_bind (h.mono fun v V1 H1 q => ?_)
  simp only [Bool.false_eq_true, if_false]
  exact w_bind (w_pure (w_bind (w_holding (q.mono fun vs V2 H2 q => w_pure q))))
theorem w_args_nil {pos : Pos} {Q : List Value → Vals → Led → Prop} (h : Q [] V H) : W C E (spliced (backTo pos (starEach [] C.env))) V H Q := w_pure h
theorem w_args_cons {e : Expr} {rest : List Expr} {pos : Pos} {Q : List Value → Vals → Led → Prop}
    (h : W C E (eval e C.env) V H (fun v V1 H1 => W C E (spliced (backTo pos (starEach rest C.env))) V1 H1 (fun vs V2 H2 => Q (v :: vs) V2 H2)))
    (he : starEach (e :: rest) C.env = (false, eval e C.env) :: starEach rest C.env := by kernel_rfl) : W C E (spliced (backTo pos (starEach (e :: rest) C.env))) V H Q := by
  rw [he]; exact w_spliced_cons h

theorem w_newObj {c : String} {vs : List Value} {Q : Value → Vals → Led → Prop} (h : ∀ a, Q (.ref a) V ((a, { cls := .type c, data := .seq vs.toArray }) :: H)) (hsz : vs.length ≤ sizeLine := by size_fits) :
    W C E (newObj (.type c) (.seq vs.toArray)) V H Q := .mk fun s v => wpAny_newObj_type ⟨V, _, v.push rfl, h _⟩ (by show vs.toArray.size ≤ sizeLine; rw [List.size_toArray]; exact hsz)
theorem w_newTuple {vs : List Value} {Q : Value → Vals → Led → Prop} (h : ∀ a, Q (.ref a) V ((a, { cls := .type "tuple", data := .seq vs.toArray }) :: H)) (hsz : vs.length ≤ sizeLine) : W C E (newTuple vs) V H Q := w_newObj h hsz
theorem w_newList {vs : List Value} {Q : Value → Vals → Led → Prop} (h : ∀ a, Q (.ref a) V ((a, { cls := .type "list", data := .seq vs.toArray }) :: H)) (hsz : vs.length ≤ sizeLine) : W C E (newList vs) V H Q := w_newObj h hsz
theorem w_Tuple {elts : List Expr} {k : Nat} {pos : Pos} {Q : Value → Vals → Led → Prop} (h : W C E (spliced (backTo pos (starEach elts C.env))) V H (fun vs V1 H1 => W C E (newTuple vs) V1 H1 Q)) : W C E (eval (.Tuple elts k pos) C.env) V H Q :=
  (w_bind (w_standAt (w_bind h)) : W C E (do standAt pos; newTuple (← spliced (backTo pos (starEach elts C.env)))) V H Q)
theorem w_List {elts : List Expr} {pos : Pos} {Q : Value → Vals → Led → Prop} (h : W C E (spliced (backTo pos (starEach elts C.env))) V H (fun vs V1 H1 => W C E (newList vs) V1 H1 Q)) : W C E (eval (.List elts pos) C.env) V H Q :=
  (w_bind (w_standAt (w_bind h)) : W C E (do standAt pos; newList (← spliced (backTo pos (starEach elts C.env)))) V H Q)
theorem w_Subscript {value slice : Expr} {pos : Pos} {Q : Value → Vals → Led → Prop} (h : W C E (eval value C.env) V H (fun o V1 H1 => W C E (eval slice C.env) V1 H1 (fun i V2 H2 => W C E (subscriptTail value slice o i) V2 H2 Q))) : W C E (eval (.Subscript value slice pos) C.env) V H Q := by
  rw [eval_Subscript]
  exact w_bind (h.mono fun _ _ _ q => w_bind (w_holding (q.mono fun _ _ _ q => w_bind (w_standAt q))))
theorem w_part_none {Q : Value → Vals → Led → Prop} (h : Q .none V H) : W C E (evalPart none C.env) V H Q := w_pure h
theorem w_part_some {e : Expr} {Q : Value → Vals → Led → Prop} (h : W C E (eval e C.env) V H Q) : W C E (evalPart (some e) C.env) V H Q := h
theorem w_Slice {lower upper step : Option Expr} {p : Pos} {Q : Value → Vals → Led → Prop}
    (h : W C E (evalPart lower C.env) V H (fun l V1 H1 => W C E (evalPart upper C.env) V1 H1 (fun u V2 H2 => W C E (evalPart step C.env) V2 H2 (fun st V3 H3 => ∀ a, Q (.ref a) V3 ((a, { cls := .type "slice", data := .fields #[l, u, st] }) :: H3))))) :
    W C E (eval (.Slice lower upper step p) C.env) V H Q := by
  rw [arm_eval_Slice]
  exact w_bind (h.mono fun _ _ _ q => w_bind (w_holding (q.mono fun _ _ _ q => w_bind (w_holding (q.mono fun st V3 H3 q => .mk fun s v => wpAny_newObj_type ⟨V3, _, v.push rfl, q _⟩)))))

/-! calls -/
theorem w_Call {func : Expr} {args : List Expr} {kws : List Keyword} {pos : Pos} {Q : Value → Vals → Led → Prop}
    (h : W C E (eval func C.env) V H (fun f V1 H1 => W C E (callWith pos f [] (backTo pos (starEach args C.env)) (backToKw pos (keywordEach kws C.env))) V1 H1 Q))
    (he : eval (.Call func args kws pos) C.env = (do callWith pos (← eval func C.env) [] (backTo pos (starEach args C.env)) (backToKw pos (keywordEach kws C.env))) := by kernel_rfl) :
    W C E (eval (.Call func args kws pos) C.env) V H Q := by rw [he]; exact w_bind h
theorem w_MethodCall {o : Expr} {name : Str} {apos pos : Pos} {args : List Expr} {kws : List Keyword} {Q : Value → Vals → Led → Prop}
    (h : W C E (eval o C.env) V H (fun ov V1 H1 => W C E (getMethod ov name (do return (← importBound o C.env).getD true)) V1 H1 (fun fx V2 H2 => W C E (callWith pos fx.1 fx.2 (backTo pos (starEach args C.env)) (backToKw pos (keywordEach kws C.env))) V2 H2 Q)))
    (he : eval (.Call (.Attribute o name apos) args kws pos) C.env = (do
      let ov ← eval o C.env
      standAt apos.atName
      let (f, first) ← holding [ov] (getMethod ov name (do return (← importBound o C.env).getD true))
      callWith pos f first (backTo pos (starEach args C.env)) (backToKw pos (keywordEach kws C.env))) := by kernel_rfl) :
    W C E (eval (.Call (.Attribute o name apos) args kws pos) C.env) V H Q := by
  rw [he]
  exact w_bind (h.mono fun _ _ _ q => w_bind (w_standAt (w_bind (w_holding (q.mono fun fx V2 H2 q => q)))))

theorem w_keep {α : Type} {vs : List Value} {m : Sem α} {Q : α → Vals → Led → Prop} (h : W C E m V H Q) : W C E (m.keep vs) V H Q := .mk fun s v => Calls.wpAny_keep (h.run s v)

/-- the callee is one whose keeper is known -/
noncomputable def Kept (C : Cx F) (H : Led) (f : Value) : Prop := ∀ (V : Vals) s, Vw C V H s → ∃ k, (k = Keeper.frame ∨ k = Keeper.machine ∨ k = Keeper.boundFrame) ∧ Looks (model prog C.w) s.heap (keeperOf f) k
theorem kept_K {f : Value} (hk : keepIn (KF C.w) f = true) : Kept C H f := fun V s v => keeps_K hk _ v.base.kin
theorem kept_builtin {id : String} : Kept C H (.builtin id) := fun V s v => ⟨.machine, .inr (.inl rfl), Looks.of_pure rfl⟩
theorem kept_type {id : String} : Kept C H (.type id) := fun V s v => ⟨.machine, .inr (.inl rfl), Looks.of_pure rfl⟩

theorem w_callWith_of {pos : Pos} {f : Value} {first : List Value} {args : List (Bool × Sem Value)} {keywords : List (Option Str × Sem Value)} {Q : Value → Vals → Led → Prop} (hplain : (args.any (·.1) || keywords.any (·.1.isNone)) = false)
    (h : W C E (evalArgs f true args keywords) V H (fun a V1 H1 => Kept C H1 f ∧ W C E (call f (first ++ a.pos) a.kw) V1 H1 Q)) : W C E (callWith pos f first args keywords) V H Q := by
  unfold callWith
  refine w_bind (w_holding (h.mono fun a V1 H1 q => w_bind (w_standAt ?_)))
  refine .mk fun s v => ?_
  obtain ⟨k, hk', L⟩ := q.1 V1 s v
  simp only [hplain]
  refine wpAny_bind (L.here ?_)
  have tail : ∀ {t : Sem Value}, W C E t V1 H1 Q → wpAny (model prog C.w) C.A (t >>= fun r => PySem.holding [r] point >>= fun _ => Pure.pure r) (fun a s' => ∃ V' H', Vw C V' H' s' ∧ Q a V' H') (fun e s' => ∃ V' H', Vw C V' H' s' ∧ E e V' H') s :=
    fun ht => (w_bind (ht.mono fun r _ _ q => w_bind (f := fun _ => Pure.pure r) (w_holding (w_point (w_pure q)))) : W C E (_ >>= fun r => PySem.holding [r] point >>= fun _ => Pure.pure r) V1 H1 Q).run s v
  have marked (mk : Value) : W C E (callMarked mk f (first ++ a.pos) a.kw) V1 H1 Q := by unfold callMarked; exact w_keep q.2
  rcases hk' with rfl | rfl | rfl <;> dsimp only <;> first | exact tail q.2 | (split <;> first | exact tail q.2 | exact tail (marked _))

theorem w_evalArgs0 {f : Value} {Q : Args → Vals → Led → Prop} (h : Q ⟨[], []⟩ V H) : W C E (evalArgs f true [] []) V H Q := .mk fun s v => PyProof.Rows.evalArgs_none ⟨V, H, v, h⟩
theorem w_evalArgs {f : Value} {x : Sem Value} {rest : List (Bool × Sem Value)} {Q : Args → Vals → Led → Prop} (h : W C E (spliced ((false, x) :: rest)) V H (fun vs V1 H1 => Q ⟨vs, []⟩ V1 H1)) : W C E (evalArgs f true ((false, x) :: rest) []) V H Q := by
  unfold evalArgs
  show W C E (spliced ((false, x) :: rest) >>= _) V H Q
  exact w_bind (h.mono fun vs V1 H1 q => w_holding (w_bind (w_pure (w_bind (w_pure (w_pure q))))))

/-- a call with arguments by place -/
theorem w_cw {pos : Pos} {f : Value} {first : List Value} {e : Expr} {rest : List Expr} {Q : Value → Vals → Led → Prop}
    (h : W C E (spliced (backTo pos (starEach (e :: rest) C.env))) V H (fun vs V1 H1 => Kept C H1 f ∧ W C E (call f (first ++ vs)) V1 H1 Q))
    (he : starEach (e :: rest) C.env = (false, eval e C.env) :: starEach rest C.env := by kernel_rfl) (hplain : (backTo pos (starEach rest C.env)).any (·.1) = false := by kernel_rfl) :
    W C E (callWith pos f first (backTo pos (starEach (e :: rest) C.env)) (backToKw pos (keywordEach [] C.env))) V H Q := by
  rw [he] at h ⊢
  exact w_callWith_of (by show ((false || (backTo pos (starEach rest C.env)).any (·.1)) || false) = false; rw [hplain]; rfl) (w_evalArgs h)
theorem w_cw0 {pos : Pos} {f : Value} {first : List Value} {Q : Value → Vals → Led → Prop} (hk : Kept C H f) (h : W C E (call f (first ++ [])) V H Q) :
    W C E (callWith pos f first (backTo pos (starEach [] C.env)) (backToKw pos (keywordEach [] C.env))) V H Q :=
  w_callWith_of rfl (w_evalArgs0 ⟨hk, h⟩)

/-! a statement that is an expression -/
theorem w_Expr {e : Expr} {pos : Pos} {Q : Flow → Vals → Led → Prop} (h : W C E (eval e C.env) V H (fun v V1 H1 => W C E (dropValue e pos v) V1 H1 Q)) (hi : interactive C.env = false) (hs : swapsWith e none pos.line C.env = Pure.pure false) : W C E (exec (.Expr e pos) C.env) V H Q := by
  rw [exec_Expr C.env e pos hi hs]
  exact w_bind (w_standAt (w_bind h))
theorem w_drop {e : Expr} {pos : Pos} {v : Value} {Q : Flow → Vals → Led → Prop} (h : Q .next V H) (hv : ∀ a, v ≠ .ref a := by intro a h; cases h) : W C E (dropValue e pos v) V H Q := by
  rw [dropValue_plain hv]; exact w_pure h

/-! x op= v -/
theorem w_AugName (ok : FnOk F) {i : Nat} {x : Str} {p pos : Pos} {op : Operator} {value : Expr} {old : Value} {Q : Flow → Vals → Led → Prop} (hi : F.names[i]? = some x) (hv : V[i]? = some (some old))
    (h : W C E (eval value C.env) V H (fun v V1 H1 => W C E (inplaceOp op old v) V1 H1 (fun new V2 H2 => W C E (storeName C.env x new) V2 H2 (fun _ V3 H3 => Q .next V3 H3)))) : W C E (exec (.AugAssign (.Name x p) op value pos) C.env) V H Q := by
  rw [exec_AugAssign_Name]
  refine w_bind (w_standAt (w_bind (w_load_local ok hi hv (w_bind (w_holding (h.mono fun v V1 H1 q => w_bind (w_standAt (w_bind ((w_operate q).mono fun new V2 H2 q => w_bind (w_standAt (w_bind ?_)))))))))))
  unfold bindName
  exact w_bind (w_holding (w_point (w_bind (q.mono fun _ _ _ q => w_point (w_pure q)))))

/-! x = v -/
theorem w_AssignName (ok : FnOk F) {i : Nat} {x : Str} {p pos : Pos} {value : Expr} {Q : Flow → Vals → Led → Prop} (hi : F.names[i]? = some x)
    (h : W C E (eval value C.env) V H (fun v V1 H1 => ∃ V2, SetAt v i V1 V2 ∧ Q .next V2 H1))
    (hs : swapsWith value (some (.Name x p)) pos.line C.env = Pure.pure false := by kernel_rfl) (hw : swappedStores [.Name x p] value C.env = Pure.pure none := by kernel_rfl) :
    W C E (exec (.Assign [.Name x p] value pos) C.env) V H Q :=
  w_Assign1 hs hw (h.mono fun v V1 H1 ⟨V2, st, q⟩ => w_assign_Name (w_store ok hi st q))
end
-- part B5
/-- a list, its items -/
structure LO (o : Obj) (vs : List Value) : Prop where
  cls : o.cls = .type "list"
  data : ∃ n, o.data = .seq vs.toArray n
theorem LO.mk' (vs : List Value) : LO { cls := .type "list", data := .seq vs.toArray } vs := ⟨rfl, 0, rfl⟩
noncomputable abbrev tupO (vs : List Value) : Obj := { cls := .type "tuple", data := .seq vs.toArray }

/-- the entry at a is turned -/
inductive UpdL (a : Addr) (o o' : Obj) : Led → Led → Prop
  | head {r : Led} : UpdL a o o' ((a, o) :: r) ((a, o') :: r)
  | tail {p : Addr × Obj} {r r' : Led} : UpdL a o o' r r' → UpdL a o o' (p :: r) (p :: r')
theorem UpdL.keys {a : Addr} {o o' : Obj} {H H' : Led} (u : UpdL a o o' H H') : H'.map (·.1) = H.map (·.1) := by
  induction u with
  | head => rfl
  | tail _ ih => rw [List.map_cons, List.map_cons, ih]
theorem UpdL.mem {a : Addr} {o o' : Obj} {H H' : Led} (u : UpdL a o o' H H') : (a, o) ∈ H := by
  induction u with
  | head => exact .head _
  | tail _ ih => exact .tail _ ih
theorem UpdL.of {a : Addr} {o o' : Obj} {H H' : Led} (u : UpdL a o o' H H') (nd : (H.map (·.1)).Nodup) : ∀ p ∈ H', p = (a, o') ∨ (p ∈ H ∧ p.1 ≠ a) := by
  induction u with
  | head =>
    intro p hp
    rw [List.map_cons, List.nodup_cons] at nd
    rcases List.mem_cons.mp hp with rfl | hp
    · exact .inl rfl
    · exact .inr ⟨.tail _ hp, fun e => nd.1 (e ▸ List.mem_map_of_mem (f := (·.1)) hp)⟩
  | @tail q r r' u ih =>
    intro p hp
    rw [List.map_cons, List.nodup_cons] at nd
    rcases List.mem_cons.mp hp with rfl | hp
    · exact .inr ⟨.head _, fun e => nd.1 (e ▸ List.mem_map_of_mem (f := (·.1)) u.mem)⟩
    · exact (ih nd.2 p hp).imp id fun ⟨m, n⟩ => ⟨.tail _ m, n⟩

section
variable {F : Fn} {C : Cx F} {E : Value → Vals → Led → Prop} {V : Vals} {H : Led}

theorem Vw.upd {s : Shared} (v : Vw C V H s) {a : Addr} {o o' : Obj} {H' : Led} {h' : Heap} (u : UpdL a o o' H H') (sb : Heap.SameBut a s.heap h') (e : h'.get? a = some o') : Vw C V H' { s with heap := h' } := by
  have ha := v.nw _ u.mem
  obtain ⟨oL, es, ep, hL, r⟩ := v.fr.ns
  refine ⟨⟨⟨oL, es, ep, (sb.2 _ (Ne.symm ha.2.1)).trans hL, r⟩, fun b ob eb => (sb.2 b fun q => ?_).trans (v.old eb), v.fr.above⟩, fun p hp => ?_, by rw [u.keys]; exact v.nd, v.gens, v.os⟩
  · subst q; rw [ha.2.2] at eb; cases eb
  · rcases u.of v.nd p hp with rfl | ⟨m, n⟩
    · exact ⟨e, ha.2⟩
    · exact ⟨(sb.2 _ n).trans (v.nw p m).1, (v.nw p m).2⟩

/-! ints -/
section
variable {a b : Int} {t u : Tok} {Q : Value → Vals → Led → Prop}
theorem w_add_int (h : ∀ k, Q (.int (a + b) k) V H) : W C E (binaryOp .Add (.int a t) (.int b u)) V H Q := .mk fun s v => PyProof.Rows.add_int ⟨V, H, v.toks _, h _⟩
theorem w_sub_int (h : ∀ k, Q (.int (a - b) k) V H) : W C E (binaryOp .Sub (.int a t) (.int b u)) V H Q := .mk fun s v => PyProof.Rows.sub_int ⟨V, H, v.toks _, h _⟩
theorem w_mul_int {m n : Nat} (ha : a.natAbs < 2 ^ m) (hb : b.natAbs < 2 ^ n) (hmn : m + n ≤ 100000) (h : ∀ k, Q (.int (a * b) k) V H) : W C E (binaryOp .Mult (.int a t) (.int b u)) V H Q := .mk fun s v =>
  PyProof.Rows.mul_int ⟨V, H, v.toks _, h _⟩ (IntMulOk.of_le (intBits_le_iff.mpr ha) (intBits_le_iff.mpr hb) (by omega))
theorem w_iadd_int (h : ∀ k, Q (.int (a + b) k) V H) : W C E (inplaceOp .Add (.int a t) (.int b u)) V H Q := .mk fun s v => PyProof.Rows.iadd_int ⟨V, H, v.toks _, h _⟩
theorem w_isub_int (h : ∀ k, Q (.int (a - b) k) V H) : W C E (inplaceOp .Sub (.int a t) (.int b u)) V H Q := .mk fun s v => PyProof.Rows.isub_int ⟨V, H, v.toks _, h _⟩
theorem noPylong {m : Nat} (hb : 0 < b) (hm : b.natAbs < 2 ^ m) (hm9 : m ≤ 9000) : Builtin.divisionGoesByPylong a b = false := PyProof.noPylong_of_log2 ((Nat.log2_lt (by omega)).mpr (Nat.lt_of_lt_of_le hm (Nat.pow_le_pow_right (by decide) hm9)))
theorem w_div_int {m : Nat} (hb : 0 < b) (hm : b.natAbs < 2 ^ m) (hm9 : m ≤ 9000) (h : ∀ k, Q (.int (a / b) k) V H) : W C E (binaryOp .FloorDiv (.int a t) (.int b u)) V H Q := .mk fun s v =>
  PyProof.Rows.floordiv_int (by omega) ⟨V, H, v.toks _, by rw [Int.fdiv_eq_ediv_of_nonneg _ (by omega)]; exact h _⟩ (Or.inl (noPylong hb hm hm9))
theorem w_mod_int (hb : 0 < b) (h : ∀ k, Q (.int (a % b) k) V H) : W C E (binaryOp .Mod (.int a t) (.int b u)) V H Q := .mk fun s v =>
  PyProof.Rows.mod_int' (show b ≠ 0 by omega) ⟨V, H, v.toks _, by rw [Int.fmod_eq_emod_of_nonneg _ (by omega)]; exact h _⟩
theorem w_pow_int {n : Nat} (hn : n ≤ 100000) (hb : b = n) (ha : a.natAbs < 2 ^ 64) (h : ∀ k, Q (.int (a ^ n) k) V H) : W C E (binaryOp .Pow (.int a t) (.int b u)) V H Q := .mk fun s v => by
  subst hb
  exact PyProof.Rows.pow_int_small (by omega) (by omega) ha ⟨V, H, v.toks _, by rw [Int.toNat_natCast]; exact h _⟩
theorem w_shl_int {n : Nat} (hn : n ≤ 100000) (hb : b = n) (ha : a.natAbs < 2 ^ 64) (h : ∀ k, Q (.int (a * 2 ^ n) k) V H) : W C E (binaryOp .LShift (.int a t) (.int b u)) V H Q := .mk fun s v => by
  subst hb
  exact PyProof.Rows.lshift_int_small (by omega) (by omega) ha ⟨V, H, v.toks _, by rw [Int.toNat_natCast]; exact h _⟩
theorem w_neg_int (h : ∀ k, Q (.int (-a) k) V H) : W C E (unaryOp .USub (.int a t)) V H Q := .mk fun s v => PyProof.Rows.neg_int ⟨V, H, v.toks _, h _⟩
theorem w_eq_int (h : Q (.bool (a == b)) V H) : W C E (compareOp .Eq (.int a t) (.int b u)) V H Q := .mk fun s v => PyProof.Rows.eq_int ⟨V, H, v, h⟩
theorem w_ne_int (h : Q (.bool (a != b)) V H) : W C E (compareOp .NotEq (.int a t) (.int b u)) V H Q := .mk fun s v => PyProof.Rows.ne_int ⟨V, H, v, h⟩
theorem w_lt_int (h : Q (.bool (decide (a < b))) V H) : W C E (compareOp .Lt (.int a t) (.int b u)) V H Q := .mk fun s v => PyProof.Rows.lt_int ⟨V, H, v, h⟩
theorem w_le_int (h : Q (.bool (decide (a ≤ b))) V H) : W C E (compareOp .LtE (.int a t) (.int b u)) V H Q := .mk fun s v => PyProof.Rows.le_int ⟨V, H, v, h⟩
theorem w_gt_int (h : Q (.bool (decide (b < a))) V H) : W C E (compareOp .Gt (.int a t) (.int b u)) V H Q := .mk fun s v => PyProof.Rows.gt_int ⟨V, H, v, h⟩
theorem w_ge_int (h : Q (.bool (decide (b ≤ a))) V H) : W C E (compareOp .GtE (.int a t) (.int b u)) V H Q := .mk fun s v => PyProof.Rows.ge_int ⟨V, H, v, h⟩
theorem w_truthy_int {Q : Bool → Vals → Led → Prop} (h : Q (a != 0) V H) : W C E (truthy (.int a t)) V H Q := .mk fun s v => PyProof.Rows.truthy_int ⟨V, H, v, h⟩
end

/-! lists, tuples -/
theorem LO.isList {o : Obj} {vs : List Value} (l : LO o vs) {s : Shared} {a : Addr} (h : s.heap.get? a = some o) : s.heap.IsList a vs.toArray := let ⟨n, e⟩ := l.data; ⟨o, h, l.cls, n, e⟩
theorem w_item_list {value slice : Expr} {l : Addr} {o : Obj} {vs : List Value} {k : Int} {u : Tok} {x : Value} {Q : Value → Vals → Led → Prop} (hl : Has C H l o) (lo : LO o vs) {i : Nat} (hk : k = i) (hx : vs[i]? = some x) (hi : i < 2 ^ 62) (h : Q x V H)
    (hs : subscripted slice false (.ref l) (.int k u) = operate [.ref l, .int k u] (getItem (.ref l) (.int k u)) := by kernel_rfl) : W C E (subscriptTail value slice (.ref l) (.int k u)) V H Q := .mk fun s v => by
  subst hk
  exact tail_any (lo.isList (hl.at v)).typeIs slot_list_getitem.lookup (wpAny_getItem_list (lo.isList (hl.at v)) (by omega) (by omega) (by simpa using hx) ⟨V, H, v, h⟩) hs
theorem w_item_tup {value slice : Expr} {l : Addr} {vs : List Value} {k : Int} {u : Tok} {x : Value} {Q : Value → Vals → Led → Prop} (hl : Has C H l (tupO vs)) {i : Nat} (hk : k = i) (hx : vs[i]? = some x) (hi : i < 2 ^ 62) (h : Q x V H)
    (hs : subscripted slice false (.ref l) (.int k u) = operate [.ref l, .int k u] (getItem (.ref l) (.int k u)) := by kernel_rfl) : W C E (subscriptTail value slice (.ref l) (.int k u)) V H Q := .mk fun s v => by
  subst hk
  have hlt : i < vs.length := (List.getElem?_eq_some_iff.mp hx).1
  exact item_tupleT ⟨_, hl.at v, rfl, 0, rfl⟩ (by omega) (by omega) (by have := seqIndex_of (k := (i : Int)) (n := vs.length) (by omega) (by omega); rw [Int.toNat_natCast] at this; exact this) hx ⟨V, H, v, h⟩ hs
theorem w_setItem_list {l : Addr} {o : Obj} {vs : List Value} {k : Int} {t : Tok} {x : Value} {Q : Unit → Vals → Led → Prop} (lo : LO o vs) {i : Nat} (hk : k = i) (hi : i < vs.length) (hi2 : i < 2 ^ 62) {R : Obj → Led} (u : ∀ o', UpdL l o o' H (R o')) (h : ∀ o', LO o' (vs.set i x) → Q () V (R o')) :
    W C E (setItem (.ref l) (.int k t) x) V H Q := .mk fun s v => by
  subst hk
  refine wpAny_setItem_list (lo.isList (v.at (u o).mem)) (by omega) (by omega) (by simp; omega) (fun h' il sb => ?_)
  obtain ⟨o', e, hc, n, hd⟩ := il
  exact ⟨V, _, v.upd (u o') sb e, h o' ⟨hc, n, by rw [hd]; simp⟩⟩
/-- x[i] = v -/
theorem w_AssignItem {o i value : Expr} {p pos : Pos} {Q : Flow → Vals → Led → Prop}
    (h : W C E (eval value C.env) V H (fun v V1 H1 => W C E (eval o C.env) V1 H1 (fun ov V2 H2 => W C E (eval i C.env) V2 H2 (fun iv V3 H3 => W C E (setItem ov iv v) V3 H3 (fun _ V4 H4 => Q .next V4 H4)))))
    (hs : swapsWith value (some (.Subscript o i p)) pos.line C.env = Pure.pure false := by kernel_rfl) (hw : swappedStores [.Subscript o i p] value C.env = Pure.pure none := by kernel_rfl) :
    W C E (exec (.Assign [.Subscript o i p] value pos) C.env) V H Q := by
  refine w_Assign1 hs hw (h.mono fun v V1 H1 q => ?_)
  show W C E (assign (.Subscript o i p) C.env v) V1 H1 _
  rw [arm_assign_Subscript]
  exact w_bind (w_holding (q.mono fun ov V2 H2 q => w_bind (w_holding (q.mono fun iv V3 H3 q => w_bind (w_standAt (w_bind (w_holding (q.mono fun _ V4 H4 q => w_release q))))))))

/-! len -/
theorem w_len_list {l : Addr} {o : Obj} {vs : List Value} {Q : Value → Vals → Led → Prop} (hl : Has C H l o) (lo : LO o vs) (hz : vs.length < 2 ^ 62) (h : ∀ k, Q (.int vs.length k) V H) : W C E (call (.builtin "len") [.ref l]) V H Q := .mk fun s v =>
  len_list (lo.isList (hl.at v)) (by simp; omega) ⟨V, H, v.toks _, by simpa using h _⟩
end
-- part B6
inductive Loc (x : Str) (v : Value) : List Str → Vals → Prop
  | z {l : List Str} {V : Vals} : Loc x v (x :: l) (some v :: V)
  | s {y : Str} {o : Option Value} {l : List Str} {V : Vals} : Loc x v l V → Loc x v (y :: l) (o :: V)
theorem Loc.at {x : Str} {v : Value} {l : List Str} {V : Vals} (h : Loc x v l V) : ∃ i : Nat, l[i]? = some x ∧ V[i]? = some (some v) := by
  induction h with
  | z => exact ⟨0, rfl, rfl⟩
  | s _ ih => obtain ⟨i, a, b⟩ := ih; exact ⟨i + 1, by simpa using a, by simpa using b⟩
inductive SetL (x : Str) (v : Value) : List Str → Vals → Vals → Prop
  | z {o : Option Value} {l : List Str} {V : Vals} : SetL x v (x :: l) (o :: V) (some v :: V)
  | s {y : Str} {o : Option Value} {l : List Str} {V V' : Vals} : SetL x v l V V' → SetL x v (y :: l) (o :: V) (o :: V')
theorem SetL.at {x : Str} {v : Value} {l : List Str} {V V' : Vals} (h : SetL x v l V V') : ∃ i : Nat, l[i]? = some x ∧ SetAt v i V V' := by
  induction h with
  | z => exact ⟨0, rfl, .z⟩
  | s _ ih => obtain ⟨i, a, b⟩ := ih; exact ⟨i + 1, by simpa using a, .s b⟩

noncomputable def isSlice : Expr → Bool
  | .Slice .. => true
  | _ => false
theorem subscripted_plain {slice : Expr} {o i : Value} (h : isSlice slice = false) : subscripted slice false o i = operate [o, i] (getItem o i) := by
  unfold subscripted
  cases slice <;> first | rfl | cases h

section
variable {F : Fn} {C : Cx F} {E : Value → Vals → Led → Prop} {V : Vals} {H : Led}

noncomputable def Seq (C : Cx F) (E : Value → Vals → Led → Prop) (rest : List Stmt) (Q : Flow → Vals → Led → Prop) : Flow → Vals → Led → Prop
  | .next, V, H => W C E (execs rest C.env) V H Q
  | f, V, H => Q f V H
theorem w_cons {st : Stmt} {rest : List Stmt} {Q : Flow → Vals → Led → Prop} (h : W C E (exec st C.env) V H (Seq C E rest Q)) : W C E (execs (st :: rest) C.env) V H Q :=
  w_execs_cons (h.mono fun f V' H' q => by cases f <;> exact q)
theorem w_nil {Q : Flow → Vals → Led → Prop} (h : Q .next V H) : W C E (execs [] C.env) V H Q := w_execs_nil h
theorem seq_next {rest : List Stmt} {Q : Flow → Vals → Led → Prop} (h : W C E (execs rest C.env) V H Q) : Seq C E rest Q .next V H := h
theorem seq_ret {rest : List Stmt} {Q : Flow → Vals → Led → Prop} {v : Value} (h : Q (.ret v) V H) : Seq C E rest Q (.ret v) V H := h
theorem seq_brk {rest : List Stmt} {Q : Flow → Vals → Led → Prop} (h : Q .brk V H) : Seq C E rest Q .brk V H := h
theorem seq_cont {rest : List Stmt} {Q : Flow → Vals → Led → Prop} (h : Q .cont V H) : Seq C E rest Q .cont V H := h

theorem w_Name (ok : FnOk F) {x : Str} {pos : Pos} {v : Value} {Q : Value → Vals → Led → Prop} (hl : Loc x v F.names V) (h : Q v V H) : W C E (eval (.Name x pos) C.env) V H Q :=
  let ⟨_, a, b⟩ := hl.at; w_Name_local ok a b h
theorem w_set (ok : FnOk F) {x : Str} {v : Value} {V' : Vals} {Q : Unit → Vals → Led → Prop} (hs : SetL x v F.names V V') (h : Q () V' H) : W C E (storeName C.env x v) V H Q :=
  let ⟨_, a, b⟩ := hs.at; w_store ok a b h
theorem w_let (ok : FnOk F) {x : Str} {p pos : Pos} {value : Expr} {Q : Flow → Vals → Led → Prop}
    (h : W C E (eval value C.env) V H (fun v V1 H1 => W C E (storeName C.env x v) V1 H1 (fun _ V2 H2 => Q .next V2 H2)))
    (hs : swapsWith value (some (.Name x p)) pos.line C.env = Pure.pure false := by kernel_rfl) (hw : swappedStores [.Name x p] value C.env = Pure.pure none := by kernel_rfl) :
    W C E (exec (.Assign [.Name x p] value pos) C.env) V H Q :=
  w_Assign1 hs hw (h.mono fun v V1 H1 q => w_assign_Name q)
theorem w_aug (ok : FnOk F) {x : Str} {p pos : Pos} {op : Operator} {value : Expr} {old : Value} {Q : Flow → Vals → Led → Prop} (hl : Loc x old F.names V)
    (h : W C E (eval value C.env) V H (fun v V1 H1 => W C E (inplaceOp op old v) V1 H1 (fun new V2 H2 => W C E (storeName C.env x new) V2 H2 (fun _ V3 H3 => Q .next V3 H3)))) : W C E (exec (.AugAssign (.Name x p) op value pos) C.env) V H Q :=
  let ⟨_, a, b⟩ := hl.at; w_AugName ok a b h

theorem w_ilist {value slice : Expr} {l : Addr} {o : Obj} {vs : List Value} {k : Int} {u : Tok} {x : Value} {Q : Value → Vals → Led → Prop} (hl : Has C H l o) (lo : LO o vs) {i : Nat} (hk : k = i) (hx : vs[i]? = some x) (hi : i < 2 ^ 62) (h : Q x V H)
    (hs : isSlice slice = false := by kernel_rfl) : W C E (subscriptTail value slice (.ref l) (.int k u)) V H Q := w_item_list hl lo hk hx hi h (subscripted_plain hs)
theorem w_itup {value slice : Expr} {l : Addr} {vs : List Value} {k : Int} {u : Tok} {x : Value} {Q : Value → Vals → Led → Prop} (hl : Has C H l (tupO vs)) {i : Nat} (hk : k = i) (hx : vs[i]? = some x) (hi : i < 2 ^ 62) (h : Q x V H)
    (hs : isSlice slice = false := by kernel_rfl) : W C E (subscriptTail value slice (.ref l) (.int k u)) V H Q := w_item_tup hl hk hx hi h (subscripted_plain hs)
end

noncomputable def dummyP : Params := { strHash := fun _ => 0, shareClass := fun _ => 0, mergeTok := fun _ => 0, idOf := fun _ => 0, idOfShared := fun _ _ => 0, followText := fun _ => false, idOfImm := fun _ => 0 }
noncomputable def fdAt (a : Addr) : FuncData := match (hd.heap_39 dummyP).lookup a with | some ⟨_, _, .func fd, _⟩ => fd | _ => default
@[reducible] noncomputable def mkFn (a : Addr) (names : List String) : Fn := { addr := a, names := names.map Str.ofString, fd := fdAt a }
-- part B7
/-- A is B without some entries, in another order -/
inductive Tk (p : Addr × Obj) : Led → Led → Prop
  | here {B : Led} : Tk p (p :: B) B
  | there {q : Addr × Obj} {B B' : Led} : Tk p B B' → Tk p (q :: B) (q :: B')
inductive SubP : Led → Led → Prop
  | rfl {A : Led} : SubP A A
  | skip {q : Addr × Obj} {A B : Led} : SubP A B → SubP A (q :: B)
  | take {p : Addr × Obj} {A B B' : Led} : Tk p B B' → SubP A B' → SubP (p :: A) B
theorem Tk.perm {p : Addr × Obj} {B B' : Led} (h : Tk p B B') : B.Perm (p :: B') := by
  induction h with
  | here => exact .refl _
  | there _ ih => exact (ih.cons _).trans (.swap _ _ _)
theorem SubP.split {A B : Led} (h : SubP A B) : ∃ R, B.Perm (A ++ R) := by
  induction h with
  | rfl => exact ⟨[], by rw [List.append_nil]⟩
  | skip _ ih => obtain ⟨R, p⟩ := ih; exact ⟨_ :: R, (p.cons _).trans List.perm_middle.symm⟩
  | take t _ ih => obtain ⟨R, p⟩ := ih; exact ⟨R, t.perm.trans (p.cons _)⟩

section
variable {F : Fn} {C : Cx F} {E : Value → Vals → Led → Prop} {V : Vals} {H : Led}
theorem Vw.subP {s : Shared} (v : Vw C V H s) {H' : Led} (h : SubP H' H) : Vw C V H' s := by
  obtain ⟨R, p⟩ := h.split
  exact (v.perm p.symm).sub (List.sublist_append_left _ _)
theorem w_drop' {α : Type} {t : Sem α} {Q : α → Vals → Led → Prop} {H' : Led} (hs : SubP H' H) (h : W C E t V H' Q) : W C E t V H Q := .mk fun s v => h.run s (v.subP hs)

/-! for -/
/-- the loop's code, from its iterator on -/
structure Loop (C : Cx F) (target : Expr) (it : Value) (body : List Stmt) (V : Vals) (H : Led) (Q : Flow → Vals → Led → Prop) : Prop where
  run : ∀ s, Vw C V H s → codeAny (model prog C.w) C.A (.forLoop target it body [] C.env) (fun r s' => match r with | .ok f => ∃ V' H', Vw C V' H' s' ∧ Q f V' H' | .error _ => False) s
theorem w_For {target iter : Expr} {body : List Stmt} {pos : Pos} {Q : Flow → Vals → Led → Prop}
    (h : W C E (eval iter C.env) V H (fun x V1 H1 => W C E (pyIter x) V1 H1 (fun it V2 H2 => Loop C target it body V2 H2 Q)))
    (hs : ∀ x, foldedSetIterable iter C.env x = Pure.pure x := by intro _; kernel_rfl) : W C E (exec (.For target iter body [] pos) C.env) V H Q := by
  rw [exec_For]
  refine w_bind (w_standAt (w_bind (h.mono fun x V1 H1 q => ?_)))
  rw [hs]
  refine w_bind (w_pure (w_bind (w_standAt (w_bind (w_holding (q.mono fun it V2 H2 q => .mk fun s v => ?_))))))
  refine wpAny_runOwn (codeAny_mono (q.run s v) fun r s' hr => ?_)
  cases r with
  | ok f => exact hr
  | error e => exact hr.elim

/-- after a turn: the next round, or out -/
noncomputable def Turn (again : Vals → Led → Prop) (Q : Flow → Vals → Led → Prop) : Flow → Vals → Led → Prop
  | .next, V, H => again V H
  | .cont, V, H => again V H
  | .brk, V, H => Q .next V H
  | .ret v, V, H => Q (.ret v) V H
theorem turn_next {again : Vals → Led → Prop} {Q : Flow → Vals → Led → Prop} (h : again V H) : Turn again Q .next V H := h
theorem turn_cont {again : Vals → Led → Prop} {Q : Flow → Vals → Led → Prop} (h : again V H) : Turn again Q .cont V H := h
theorem turn_brk {again : Vals → Led → Prop} {Q : Flow → Vals → Led → Prop} (h : Q .next V H) : Turn again Q .brk V H := h
theorem turn_ret {again : Vals → Led → Prop} {Q : Flow → Vals → Led → Prop} {v : Value} (h : Q (.ret v) V H) : Turn again Q (.ret v) V H := h

/-- a loop by an invariant over a number that falls -/
theorem loop_inv {target : Expr} {it : Value} {body : List Stmt} {Q : Flow → Vals → Led → Prop} (I : Nat → Vals → Led → Prop)
    (turn : ∀ n V H, I n V H → W C NoE (pyNext it) V H (fun r V1 H1 => match r with
      | none => Q .next V1 H1
      | some v => W C NoE (letOwnedTupleGo target it v) V1 H1 (fun _ V1 H1 => W C NoE (assign target C.env v) V1 H1 (fun _ V2 H2 => W C NoE (execs body C.env) V2 H2 (Turn (fun V3 H3 => ∃ m, m < n ∧ I m V3 H3) Q)))))
    {n : Nat} (h : I n V H) : Loop C target it body V H Q := .mk fun s v => by
  refine codeAny_loop' rfl (fun n s => ∃ V H, Vw C V H s ∧ I n V H) (fun n s hI => ?_) n ⟨V, H, v, h⟩
  obtain ⟨V, H, v, hI⟩ := hI
  show wpAny _ _ ((forTurn target it body [] C.env).onRaise (fun x => do noteFrame x C.env; theTreesLotGoes x)) _ _ s
  refine wpAny_noted ?_
  simp only [forTurn]
  refine wpAny_bind (wpAny_standAt (wpAny_bind (wpAny_onRaise (wpAny_mono ((turn n V H hI).run s v) (fun r s₁ ⟨V1, H1, v1, h₁⟩ => ?_) fun _ _ ⟨_, _, _, x⟩ => x.elim))))
  cases r with
  | none => exact wpAny_pure (.inr ⟨rfl, codeAny_block (wpAny_execs_nil ⟨V1, H1, v1, h₁⟩)⟩)
  | some x =>
    refine wpAny_bind (wpAny_mono (h₁.run s₁ v1) (fun _ s₂ ⟨V2, H2, v2, h₂⟩ => ?_) fun _ _ ⟨_, _, _, x⟩ => x.elim)
    refine wpAny_bind (wpAny_mono (h₂.run s₂ v2) (fun _ s₃ ⟨V3, H3, v3, h₃⟩ => ?_) fun _ _ ⟨_, _, _, x⟩ => x.elim)
    refine wpAny_bind (wpAny_mono (h₃.run s₃ v3) (fun f s₄ ⟨V4, H4, v4, h₄⟩ => ?_) fun _ _ ⟨_, _, _, x⟩ => x.elim)
    cases f with
    | next => obtain ⟨m, hm, hI'⟩ := h₄; exact wpAny_pure (.inl ⟨rfl, m, hm, V4, H4, v4, hI'⟩)
    | cont => obtain ⟨m, hm, hI'⟩ := h₄; exact wpAny_pure (.inl ⟨rfl, m, hm, V4, H4, v4, hI'⟩)
    | brk => exact wpAny_pure ⟨V4, H4, v4, h₄⟩
    | ret v => exact wpAny_pure ⟨V4, H4, v4, h₄⟩

theorem w_noTup {target : Expr} {it v : Value} {Q : Unit → Vals → Led → Prop} (ht : letOwnedTupleGo target it v = Pure.pure ()) (h : Q () V H) : W C E (letOwnedTupleGo target it v) V H Q := by rw [ht]; exact w_pure h

/-! over a range -/
noncomputable def rangeO (a b : Int) (t u v : Tok) : Obj := { cls := .type "range", data := .fields #[.int a t, .int b u, .int 1 v] }
noncomputable def rangeItO (x left : Int) : Obj := { cls := .type "range_iterator", data := .fields #[rawInt x, rawInt left, rawInt 1] }
theorem w_range1 {n : Int} {t : Tok} {Q : Value → Vals → Led → Prop} (h : ∀ a t u v, Q (.ref a) V ((a, rangeO 0 n t u v) :: H)) : W C E (call (.type "range") [.int n t]) V H Q := .mk fun s v =>
  call_range_1 ⟨V, _, (v.push rfl).toks _, h _ _ _ _⟩
theorem w_iter_range {r : Addr} {n : Int} {t u v : Tok} {Q : Value → Vals → Led → Prop} (h0 : 0 ≤ n) (hn : n < 2 ^ 60) (hr : Has C H r (rangeO 0 n t u v)) (h : ∀ it, Q (.ref it) V ((it, rangeItO 0 n) :: H)) : W C E (pyIter (.ref r)) V H Q := .mk fun s vw =>
  wpAny_pyIter_range (hr.at vw) (small_one (by omega) (by omega) (by omega) (by omega)) (by
    have e : Builtin.Range.rangeSize 0 n 1 = n := by rw [rangeSize_one]; split <;> omega
    rw [e]
    exact ⟨V, _, vw.push rfl, h _⟩)
theorem Vw.extBut {s : Shared} (v : Vw C V H s) {it : Addr} {o : Obj} {R : Led} (hH : H = (it, o) :: R) {h' : Heap} (e : Heap.ExtBut it s.heap h') : Vw C V R { s with heap := h' } := by
  subst hH
  obtain ⟨oL, es, ep, hL, r⟩ := v.fr.ns
  have hi := v.nw _ (.head _)
  have nd := List.nodup_cons.mp v.nd
  refine ⟨⟨⟨oL, es, ep, e _ _ (Ne.symm hi.2.1) hL, r⟩, fun b ob eb => e _ _ (fun q => ?_) (v.old eb), v.fr.above⟩, fun p hp => ⟨e _ _ (fun q => nd.1 (q ▸ List.mem_map_of_mem (f := (·.1)) hp)) (v.nw p (.tail _ hp)).1, (v.nw p (.tail _ hp)).2⟩, nd.2, v.gens, v.os⟩
  have := hi.2.2
  rw [q] at eb
  rw [this] at eb
  cases eb
theorem w_next_range {it : Addr} {x left : Int} {Q : Option Value → Vals → Led → Prop} (hl : 0 < left) (h : ∀ t, Q (some (.int x t)) V ((it, rangeItO (x + 1) (left - 1)) :: H)) : W C E (pyNext (.ref it)) V ((it, rangeItO x left) :: H) Q := .mk fun s v =>
  wpAny_pyNext_range_item (v.at (.head _)) hl fun h' hi sb => ⟨V, _, (v.upd .head sb hi).toks _, h _⟩
theorem w_end_range {it : Addr} {x left : Int} {Q : Option Value → Vals → Led → Prop} (hl : left ≤ 0) (h : Q none V H) : W C E (pyNext (.ref it)) V ((it, rangeItO x left) :: H) Q := .mk fun s v =>
  wpAny_pyNext_range_end C.aok.hnd (v.at (.head _)) hl fun h' e => ⟨V, H, v.extBut rfl e, h⟩

/-- for x in range(n): the invariant says how things stand when i turns are done -/
theorem loop_range {target : Expr} {it : Addr} {body : List Stmt} {n : Nat} {Q : Flow → Vals → Led → Prop} (I : Nat → Vals → Led → Prop) (h0 : I 0 V H)
    (step : ∀ i V H t, i < n → I i V H → W C NoE (assign target C.env (.int (i : Nat) t)) V ((it, rangeItO ((i : Int) + 1) ((n : Int) - i - 1)) :: H) (fun _ V2 H2 => W C NoE (execs body C.env) V2 H2
      (Turn (fun V3 H3 => ∃ H', SubP ((it, rangeItO ((i : Int) + 1) ((n : Int) - i - 1)) :: H') H3 ∧ I (i + 1) V3 H') Q)))
    (fin : ∀ V H, I n V H → Q .next V H) (ht : ∀ v, letOwnedTupleGo target (.ref it) v = Pure.pure () := by intro _; rfl) : Loop C target (.ref it) body V ((it, rangeItO 0 n) :: H) Q := by
  have go : Loop C target (.ref it) body V ((it, rangeItO ((0 : Nat) : Int) ((n : Int) - (0 : Nat))) :: H) Q := by
    refine loop_inv (fun m V H => ∃ i H', i + m = n ∧ SubP ((it, rangeItO (i : Nat) ((n : Int) - i)) :: H') H ∧ I i V H') (fun m V H ⟨i, H', hm, hs, hI⟩ => w_drop' hs ?_) (n := n) ⟨0, H, by omega, .rfl, h0⟩
    by_cases hi : i < n
    · refine w_next_range (by omega) fun t => ?_
      dsimp only
      refine w_noTup (ht _) ?_
      refine (step i V H' t hi hI).mono fun _ V2 H2 q => q.mono fun f V3 H3 q => ?_
      have key : ∀ V3 H3, (∃ H', SubP ((it, rangeItO ((i : Int) + 1) ((n : Int) - i - 1)) :: H') H3 ∧ I (i + 1) V3 H') → ∃ m', m' < m ∧ ∃ i H', i + m' = n ∧ SubP ((it, rangeItO (i : Nat) ((n : Int) - i)) :: H') H3 ∧ I i V3 H' := fun V3 H3 ⟨H', a, b⟩ =>
        ⟨m - 1, by omega, i + 1, H', by omega, by
          have e : (((i + 1 : Nat) : Int)) = (i : Int) + 1 := by omega
          have e2 : (n : Int) - ((i : Int) + 1) = (n : Int) - i - 1 := by omega
          rw [e, e2]; exact a, b⟩
      cases f with
      | next => exact key _ _ q
      | cont => exact key _ _ q
      | brk => exact q
      | ret v => exact q
    · have : i = n := by omega
      subst this
      exact w_end_range (by omega) (fin _ _ hI)
  have e : (n : Int) - (0 : Nat) = n := by omega
  rw [e] at go
  exact go
end
-- part B8
/-- texts by their letters -/
noncomputable abbrev S (l : List Nat) : Str := ⟨l.toArray⟩
theorem S_len (l : List Nat) : (S l).length = l.length := by show l.toArray.size = _; simp
theorem S_add (a b : List Nat) : S a ++ S b = S (a ++ b) := by show Str.append _ _ = _; simp [Str.append, S]
theorem S_inj {a b : List Nat} (h : S a = S b) : a = b := by simpa [S] using congrArg (fun x => x.cps.toList) h
theorem S_beq (a b : List Nat) : (S a == S b) = (a == b) := by
  rw [Bool.eq_iff_iff, beq_iff_eq, beq_iff_eq]; exact ⟨S_inj, fun e => e ▸ rfl⟩
theorem line_le {n : Nat} (h : n ≤ 16777216) : n ≤ sizeLine := by rw [sizeLine_eq]; exact h

/-! cuts -/
noncomputable def clipN (n : Nat) (d : Nat) : Option Int → Nat
  | none => d
  | some i => (max 0 (min (if i < 0 then i + n else i) (n : Int))).toNat
noncomputable def cut {α : Type} (l : List α) (lo hi : Option Int) : List α := (l.drop (clipN l.length 0 lo)).take (clipN l.length l.length hi - clipN l.length 0 lo)
theorem clipN_nat (n d k : Nat) : clipN n d (some (k : Int)) = min k n := by
  show (max 0 (min (if (k : Int) < 0 then (k : Int) + n else k) (n : Int))).toNat = _
  rw [if_neg (by omega)]; omega
theorem clipN_le (n d : Nat) (hd : d ≤ n) (o : Option Int) : clipN n d o ≤ n := by
  cases o with
  | none => exact hd
  | some i => show (max 0 (min _ (n : Int))).toNat ≤ n; omega
theorem cut_from {α : Type} (l : List α) (k : Nat) : cut l (some (k : Int)) none = l.drop k := by
  unfold cut
  rw [clipN_nat]
  show (l.drop (min k l.length)).take (l.length - _) = _
  by_cases h : k ≤ l.length
  · rw [Nat.min_eq_left h, List.take_of_length_le (by rw [List.length_drop]; exact Nat.le_refl _)]
  · rw [Nat.min_eq_right (by omega), List.drop_of_length_le (Nat.le_refl _), List.drop_of_length_le (by omega)]; simp
theorem cut_to {α : Type} (l : List α) (k : Nat) : cut l none (some (k : Int)) = l.take k := by
  unfold cut
  rw [clipN_nat]
  show (l.drop 0).take (min k l.length - 0) = _
  rw [List.drop_zero, Nat.sub_zero]
  by_cases h : k ≤ l.length
  · rw [Nat.min_eq_left h]
  · rw [Nat.min_eq_right (by omega), List.take_of_length_le (Nat.le_refl _), List.take_of_length_le (by omega)]
theorem cut_mid {α : Type} (l : List α) (a b : Nat) : cut l (some (a : Int)) (some (b : Int)) = (l.drop a).take (b - a) := by
  unfold cut
  rw [clipN_nat, clipN_nat]
  by_cases h : a ≤ l.length
  · rw [Nat.min_eq_left h]
    by_cases k : b ≤ l.length
    · rw [Nat.min_eq_left k]
    · have e : min b l.length = l.length := by omega
      rw [e, List.take_of_length_le (by rw [List.length_drop]; exact Nat.le_refl _), List.take_of_length_le (by rw [List.length_drop]; omega)]
  · have e : min a l.length = l.length := by omega
    rw [e, List.drop_of_length_le (Nat.le_refl _), List.drop_of_length_le (by omega)]; simp
theorem cut_last {α : Type} (l : List α) : cut l none (some (-1)) = l.dropLast := by
  unfold cut
  have e : clipN l.length l.length (some (-1)) = l.length - 1 := by
    show (max 0 (min (if (-1 : Int) < 0 then (-1 : Int) + l.length else -1) (l.length : Int))).toNat = _
    rw [if_pos (by decide)]; omega
  rw [e, List.dropLast_eq_take]
  rfl
theorem cut_all {α : Type} (l : List α) : cut l none none = l := by
  show (l.drop 0).take (l.length - 0) = l
  rw [List.drop_zero, Nat.sub_zero, List.take_length]
theorem cut_le {α : Type} (l : List α) (lo hi : Option Int) : (cut l lo hi).length ≤ l.length := by
  unfold cut; rw [List.length_take, List.length_drop]; omega

theorem range_cut {α : Type} (l : List α) (a b : Nat) (hb : b ≤ l.length) : (sliceRange (a : Int) (b : Int) 1).filterMap (l[·]?) = (l.drop a).take (b - a) := by
  unfold sliceRange
  simp only [show ((1 : Int) > 0) = True from by simp, if_true]
  by_cases h : a ≤ b
  · have e3 : (if (a : Int) < b then ((b : Int) - a + 1 - 1) / 1 else 0).toNat = b - a := by split <;> omega
    rw [e3]
    have e : ((List.range (b - a)).map fun (k : Nat) => ((a : Int) + 1 * (k : Int)).toNat) = (List.range (b - a)).map (fun k => a + k) := List.map_congr_left fun k _ => by omega
    rw [e]
    exact StrLaws.picks l (b - a) a (by omega)
  · have e3 : (if (a : Int) < b then ((b : Int) - a + 1 - 1) / 1 else 0).toNat = b - a := by split <;> omega
    rw [e3, show b - a = 0 by omega]; simp
theorem bounds_cut (lo hi : Option Int) (n : Nat) : sliceBounds lo hi none n = (((clipN n 0 lo : Nat) : Int), ((clipN n n hi : Nat) : Int), 1) := by
  unfold sliceBounds clipN
  cases lo <;> cases hi <;> simp <;> omega
theorem str_cut (l : List Nat) (lo hi : Option Int) : (Builtin.Str.strSliceIndices lo hi 1 l.length).filterMap (l[·]?) = cut l lo hi := by
  have e : Builtin.Str.strSliceIndices lo hi 1 l.length = sliceRange ((clipN l.length 0 lo : Nat) : Int) ((clipN l.length l.length hi : Nat) : Int) 1 := by
    unfold Builtin.Str.strSliceIndices clipN
    cases lo <;> cases hi <;> simp
    all_goals (congr 1 <;> omega)
  rw [e, range_cut _ _ _ (clipN_le _ _ (Nat.le_refl _) _)]
  rfl
theorem pick_cut (l : List Value) (lo hi : Option Int) : slicePick l.toArray lo hi none = (cut l lo hi).toArray := by
  unfold slicePick
  rw [bounds_cut]
  have := range_cut l (clipN l.length 0 lo) (clipN l.length l.length hi) (clipN_le _ _ (Nat.le_refl _) _)
  simp only [List.size_toArray, List.getElem?_toArray]
  rw [this]; rfl
theorem bytes_cut (l : List UInt8) (lo hi : Option Int) : KBy.picked l.toArray lo hi = (cut l lo hi).toArray := by
  unfold KBy.picked Builtin.Bytes.sliced
  rw [bounds_cut]
  have := range_cut l (clipN l.length 0 lo) (clipN l.length l.length hi) (clipN_le _ _ (Nat.le_refl _) _)
  simp only [List.size_toArray, List.getElem?_toArray]
  rw [this]; rfl

noncomputable abbrev sliceO (l u st : Value) : Obj := { cls := .type "slice", data := .fields #[l, u, st] }
theorem subscripted_any (slice : Expr) (o i : Value) : ∃ ops, subscripted slice false o i = operate ops (getItem o i) := by
  unfold subscripted
  split
  · exact ⟨_, rfl⟩
  · rename_i h; cases h
  · exact ⟨_, rfl⟩

section
variable {Fx : Fn} {C : Cx Fx} {E : Value → Vals → Led → Prop} {V : Vals} {H : Led}

/-- o[l:u:st], its parts at hand -/
structure Cut (C : Cx Fx) (E : Value → Vals → Led → Prop) (o l u st : Value) (V : Vals) (H : Led) (Q : Value → Vals → Led → Prop) : Prop where
  run : ∀ value slice a, W C E (subscriptTail value slice o (.ref a)) V ((a, sliceO l u st) :: H) Q
theorem w_SubSlice {value : Expr} {lower upper step : Option Expr} {p pos : Pos} {Q : Value → Vals → Led → Prop}
    (h : W C E (eval value C.env) V H (fun o V0 H0 => W C E (evalPart lower C.env) V0 H0 (fun l V1 H1 => W C E (evalPart upper C.env) V1 H1 (fun u V2 H2 => W C E (evalPart step C.env) V2 H2 (fun st V3 H3 => Cut C E o l u st V3 H3 Q))))) :
    W C E (eval (.Subscript value (.Slice lower upper step p) pos) C.env) V H Q :=
  w_Subscript (h.mono fun o V0 H0 q => w_Slice (q.mono fun l V1 H1 q => q.mono fun u V2 H2 q => q.mono fun st V3 H3 q a => q.run _ _ _))

theorem Cut.of {o l u st : Value} {T id : String} {Q : Value → Vals → Led → Prop} (hT : ∀ s, Vw C V H s → s.TypeIs o T) (hl : typeLookup (.type T) "__getitem__" = pure (some (.builtin id)))
    (hg : ∀ s a, Vw C V ((a, sliceO l u st) :: H) s → s.heap.get? a = some (sliceO l u st) → wpAny (model prog C.w) C.A (getItem o (.ref a)) (fun r s' => ∃ V' H', Vw C V' H' s' ∧ Q r V' H') (fun e s' => ∃ V' H', Vw C V' H' s' ∧ E e V' H') s) : Cut C E o l u st V H Q :=
  ⟨fun value slice a => .mk fun s v => by
    obtain ⟨ops, hs⟩ := subscripted_any slice o (.ref a)
    exact tail_any (hT s (v.subP (.skip .rfl))) hl (hg s a v (v.at (.head _))) hs⟩

theorem cut_str {x : List Nat} {t : Tok} {l u : Value} {lo hi : Option Int} {Q : Value → Vals → Led → Prop} (hl : IsPart l lo) (hu : IsPart u hi) (hsz : x.length ≤ 16777216) (h : ∀ t, Q (.str (S (cut x lo hi)) t) V H) : Cut C E (.str (S x) t) l u .none V H Q :=
  .of (fun s _ => typeIs_str s _ _) F.slot_str_getitem.lookup fun s a v ha => by
    obtain ⟨lo', e1, e1'⟩ : ∃ p, l = partValue p ∧ p.map (·.1) = lo := by cases hl with | none => exact ⟨none, rfl, rfl⟩ | int i t => exact ⟨some (i, t), rfl, rfl⟩
    obtain ⟨hi', e2, e2'⟩ : ∃ p, u = partValue p ∧ p.map (·.1) = hi := by cases hu with | none => exact ⟨none, rfl, rfl⟩ | int i t => exact ⟨some (i, t), rfl, rfl⟩
    subst e1 e2 e1' e2'
    have v' := v.subP (H' := H) (.skip .rfl)
    refine wpAny_getItem_str_slice (l := lo') (u := hi') (st := none) ⟨_, ha, rfl, rfl⟩ rfl ?_
    unfold sliceMade slicePicked
    have e : (Builtin.Str.strSliceIndices (lo'.map (·.1)) (hi'.map (·.1)) 1 (S x).length).filterMap ((S x).cps[·]?) = cut x (lo'.map (·.1)) (hi'.map (·.1)) := by
      rw [S_len]; simpa [S] using str_cut x (lo'.map (·.1)) (hi'.map (·.1))
    split
    · rename_i hc
      have hx : S (cut x (lo'.map (·.1)) (hi'.map (·.1))) = S x := by
        have hlen : (cut x (lo'.map (·.1)) (hi'.map (·.1))).length = x.length := by
          have h2 : (Builtin.Str.strSliceIndices (lo'.map (·.1)) (hi'.map (·.1)) 1 (S x).length).length = (S x).length := by simpa using hc
          have e3 : Builtin.Str.strSliceIndices (lo'.map (·.1)) (hi'.map (·.1)) 1 x.length = sliceRange ((clipN x.length 0 (lo'.map (·.1)) : Nat) : Int) ((clipN x.length x.length (hi'.map (·.1)) : Nat) : Int) 1 := by
            unfold Builtin.Str.strSliceIndices clipN
            cases lo' <;> cases hi' <;> simp
            all_goals (congr 1 <;> omega)
          rw [S_len, e3] at h2
          unfold sliceRange at h2
          simp only [show ((1 : Int) > 0) = True from by simp, if_true, List.length_map, List.length_range] at h2
          unfold cut
          rw [List.length_take, List.length_drop]
          have k1 := clipN_le x.length 0 (Nat.zero_le _) (lo'.map (·.1))
          have k2 := clipN_le x.length x.length (Nat.le_refl _) (hi'.map (·.1))
          split at h2 <;> omega
        congr 2
        unfold cut at hlen ⊢
        rw [List.length_take, List.length_drop] at hlen
        have k1 := clipN_le x.length 0 (Nat.zero_le _) (lo'.map (·.1))
        have k2 := clipN_le x.length x.length (Nat.le_refl _) (hi'.map (·.1))
        have z : clipN x.length 0 (lo'.map (·.1)) = 0 ∨ x.length = 0 := by omega
        rcases z with z | z
        · rw [z] at hlen ⊢
          rw [List.drop_zero, List.take_of_length_le (by omega)]
        · rw [List.eq_nil_of_length_eq_zero z]; simp
      have := h t
      rw [hx] at this
      exact ⟨V, H, v', this⟩
    · refine ⟨line_le ?_, ?_⟩
      · show (List.filterMap _ _).toArray.size ≤ _
        rw [List.size_toArray, show ((Option.map (·.1) (none : Option (Int × Tok))).getD 1) = 1 from rfl, e]
        exact Nat.le_trans (cut_le _ _ _) hsz
      · rw [show ((Option.map (·.1) (none : Option (Int × Tok))).getD 1) = 1 from rfl, e]
        exact ⟨V, H, v'.toks _, h _⟩
end
-- part B9
theorem rev_str (l : List Nat) : (Builtin.Str.strSliceIndices none none (-1) l.length).filterMap (l[·]?) = l.reverse := by
  have e : Builtin.Str.strSliceIndices none none (-1) l.length = sliceRange ((l.length : Int) - 1) (-1) (-1) := by
    unfold Builtin.Str.strSliceIndices; simp
  rw [e, krv_sliceRange, krv_range, List.filterMap_reverse]
  have := krv_all l.toArray
  simp only [List.size_toArray, List.getElem?_toArray] at this
  rw [this]

/-- letters said n times -/
theorem mul_S (x : List Nat) (n : Int) (hs : x.length * n.toNat ≤ 16777216) (hx : x ≠ []) : Txt.mul (S x) n = S (List.replicate n.toNat x).flatten := by
  have fold : ∀ (n : Nat) (acc : List Nat), (List.replicate n x.toArray).foldl (· ++ ·) acc.toArray = (acc ++ (List.replicate n x).flatten).toArray := by
    intro n
    induction n with
    | zero => intro acc; simp
    | succ n ih => intro acc; rw [List.replicate_succ, List.foldl_cons, List.append_toArray, ih, List.replicate_succ, List.flatten_cons, List.append_assoc]
  unfold Txt.mul
  split
  · rename_i h; rw [show n.toNat = 0 by omega]; rfl
  · split
    · rename_i h1 h2
      have : n = 1 := by
        rw [S_len] at h2
        have : x.length ≠ 0 := fun e => hx (List.eq_nil_of_length_eq_zero e)
        simpa [this] using h2
      subst this; simp
    · have := fold n.toNat []
      rw [List.nil_append] at this
      show (⟨_⟩ : Str) = ⟨_⟩
      congr 1
theorem mulOk_S (x : List Nat) (n : Int) (hs : x.length * n.toNat ≤ 16777216) (hlo : -1048576 ≤ n) (hx : x ≠ []) : MulOk (S x) n := by
  have hp : 0 < x.length := List.length_pos_iff.mpr hx
  have hn : n.toNat ≤ 16777216 := Nat.le_trans (Nat.le_mul_of_pos_left _ hp) hs
  refine ⟨by simp only [Bool.or_eq_false_iff, decide_eq_false_iff_not]; omega, fun h1 _ hc => ?_, fun h1 _ => ?_⟩
  · rw [S_len] at hc
    have h2 : (2 ^ 63 - 1 : Int) < (x.length : Int) * n := by
      have := Int.lt_mul_of_ediv_lt (show (0 : Int) < n by omega) hc
      exact this
    have h3 : (x.length : Int) * n = ((x.length * n.toNat : Nat) : Int) := by rw [Int.natCast_mul, Int.toNat_of_nonneg (by omega)]
    omega
  · rw [S_len]
    unfold Builtin.Str.tooLong
    simp only [decide_eq_false_iff_not]
    have : sizeLine = 16777216 := sizeLine_eq
    omega

theorem len_ne (a : List Nat) : ((a.length : Int) != 0) = decide (a ≠ []) := by
  cases a with
  | nil => rfl
  | cons x r => simp; omega
section
variable {Fx : Fn} {C : Cx Fx} {E : Value → Vals → Led → Prop} {V : Vals} {H : Led}
section
variable {a b : List Nat} {t u : Tok} {Q : Value → Vals → Led → Prop}
/-- a text of the program, by its letters -/
theorem w_strc {x : Str} {l : List Nat} {k : Nat} {pos : Pos} (hx : x = S l) (h : ∀ t, Q (.str (S l) t) V H) : W C E (eval (.Constant (.str x) k pos) C.env) V H Q := w_str (by rw [hx]; exact h)
theorem w_eq_S (h : Q (.bool (a == b)) V H) : W C E (compareOp .Eq (.str (S a) t) (.str (S b) u)) V H Q := .mk fun s v => PyProof.Rows.eq_str ⟨V, H, v, by rw [S_beq]; exact h⟩
theorem w_ne_S (h : Q (.bool (a != b)) V H) : W C E (compareOp .NotEq (.str (S a) t) (.str (S b) u)) V H Q := .mk fun s v => PyProof.Rows.ne_str ⟨V, H, v, by rw [bne, S_beq]; exact h⟩
theorem w_in_S {c : Nat} (h : Q (.bool (decide (c ∈ a))) V H) : W C E (compareOp .In (.str (S [c]) u) (.str (S a) t)) V H Q := .mk fun s v => PyProof.Rows.in_str ⟨V, H, v, by rw [show S [c] = ⟨#[c]⟩ from rfl, StrLaws.found_one]; simpa [S] using h⟩
theorem w_notin_S {c : Nat} (h : Q (.bool (!decide (c ∈ a))) V H) : W C E (compareOp .NotIn (.str (S [c]) u) (.str (S a) t)) V H Q := .mk fun s v => PyProof.Rows.notIn_str ⟨V, H, v, by rw [show S [c] = ⟨#[c]⟩ from rfl, StrLaws.found_one]; simpa [S] using h⟩
theorem w_add_S (hsz : a.length + b.length ≤ 16777216) (h : ∀ k, Q (.str (S (a ++ b)) k) V H) : W C E (binaryOp .Add (.str (S a) t) (.str (S b) u)) V H Q := .mk fun s v =>
  PyProof.Rows.add_str (fun t' k => ⟨V, H, v.toks _, by rw [S_add]; exact h _⟩) (line_le (by rw [S_len, S_len]; exact hsz))
theorem w_iadd_S (hsz : a.length + b.length ≤ 16777216) (h : ∀ k, Q (.str (S (a ++ b)) k) V H) : W C E (inplaceOp .Add (.str (S a) t) (.str (S b) u)) V H Q := .mk fun s v =>
  PyProof.Rows.iadd_str (fun t' k => ⟨V, H, v.toks _, by rw [S_add]; exact h _⟩) (line_le (by rw [S_len, S_len]; exact hsz))
theorem w_len_S (hsz : a.length ≤ 16777216) (h : ∀ k, Q (.int a.length k) V H) : W C E (call (.builtin "len") [.str (S a) t]) V H Q := .mk fun s v =>
  PyProof.Rows.len_str (by rw [S_len]; omega) ⟨V, H, v.toks _, by rw [S_len]; exact h _⟩
theorem w_truthy_S {Q : Bool → Vals → Led → Prop} (hsz : a.length ≤ 16777216) (h : Q (decide (a ≠ [])) V H) : W C E (truthy (.str (S a) t)) V H Q := .mk fun s v =>
  P.truthy_str (by rw [S_len]; omega) ⟨V, H, v.toks _, by rw [S_len, len_ne]; exact h⟩
theorem w_item_S {value slice : Expr} {i : Int} {c : Nat} (hr : -(2 ^ 62) < i ∧ i < 2 ^ 62) (hc : (seqIndex? i a.length).bind (a[·]?) = some c) (h : ∀ t, Q (.str (S [c]) t) V H) (hs : isSlice slice = false := by kernel_rfl) :
    W C E (subscriptTail value slice (.str (S a) t) (.int i u)) V H Q := .mk fun s v =>
  tail_any (typeIs_str s _ _) F.slot_str_getitem.lookup (PyProof.Rows.getItem_str (by simp only [Bool.or_eq_false_iff, decide_eq_false_iff_not]; omega) (by rw [S_len]; simpa [S] using hc) ⟨V, H, v.toks _, h _⟩) (subscripted_plain hs)
theorem w_mul_S {n : Int} (hx : a ≠ []) (hlo : -1048576 ≤ n) (hs : a.length * n.toNat ≤ 16777216) (h : ∀ k, Q (.str (S (List.replicate n.toNat a).flatten) k) V H) : W C E (binaryOp .Mult (.str (S a) t) (.int n u)) V H Q := .mk fun s v =>
  SB.mul (mulOk_S a n hs hlo hx) fun t' k => ⟨V, H, v.toks _, by rw [mul_S a n hs hx]; exact h _⟩
end
end
-- part B10
theorem int_mul_no_str (a : Int) (t : Tok) (x : Str) (u : Tok) : Gives (Builtin.«int.__mul__» ⟨[.int a t, .str x u], []⟩) (.val (Value.notImplemented)) :=
  .of_wp fun M A E s Q h => by obtain ⟨hp, g, d, tk, os⟩ := s; wp_walk; exact ⟨_, rfl, h⟩
theorem int_mul_no_bytes (a : Int) (t : Tok) (x : Array UInt8) (u : Tok) : Gives (Builtin.«int.__mul__» ⟨[.int a t, .bytes x u], []⟩) (.val (Value.notImplemented)) :=
  .of_wp fun M A E s Q h => by obtain ⟨hp, g, d, tk, os⟩ := s; wp_walk; exact ⟨_, rfl, h⟩
section
variable {prog : Program} {w : World} {A : Around} {E : Value → Shared → Prop} {s : Shared} {x : Str} {t u : Tok} {Q : Value → Shared → Prop}
theorem rmul_str {n : Int} (hok : MulOk x n) (h : ∀ t' k, Q (.str (Txt.mul x n) t') { s with toks := k }) : wpAny (model prog w) A (binaryOp .Mult (.int n u) (.str x t)) Q E s := by
  refine lm_binaryOp_repeat_right (T := "str") (U := "int") (by decide) (fun s' => typeIs_int s' n u) (typeIs_str s x t) F.fills_int_mul noFill_str_mul F.slot_int_mul lm_noRepeat_int repeat_str F.slot_int_index.lookup
    (call_gives F.slot_int_mul (typeIs_int s n u) F.entry_int_mul (F.args_int_mul_2 _ _) (int_mul_no_str n u x t)
      ⟨rfl, typeIs_str _ x t, call_gives F.slot_str_mul (typeIs_str s x t) F.entry_str_mul (F.args_str_mul_2 _ _) (PySem.gives_str_mul x n t u hok.1 hok.2.1 hok.2.2) ?_⟩)
  unfold Txt.mul at h
  by_cases h1 : n < 1
  · rw [if_pos h1]; have h' := h s.toks (s.toks + 1); rw [if_pos h1] at h'; exact ⟨by decide, h'⟩
  · rw [if_neg h1]; refine post_val_or_made (fun hc => fits_reps (hok.2.2 h1 (by simpa using hc))) fun t' k => ?_
    have h' := h t' k; rw [if_neg h1] at h'; exact h'
theorem rmul_bytes {b : List UInt8} {n : Int} (hb : b ≠ []) (hlo : -1048576 ≤ n) (hn : n ≤ 1048576) (hs : b.length ≤ 16) (h : ∀ t' k, Q (.bytes ((List.replicate n.toNat b).flatten).toArray t') { s with toks := k }) :
    wpAny (model prog w) A (binaryOp .Mult (.int n u) (.bytes b.toArray t)) Q E s := by
  have e3 : b.toArray.size = b.length := by simp
  have hle : b.length * n.toNat ≤ 16777216 := by
    have e2 : b.length * n.toNat ≤ 16 * n.toNat := Nat.mul_le_mul_right _ hs
    omega
  have hpos : 0 < b.length := List.length_pos_iff.mpr hb
  have go : ∀ m : Made, m.post Q s → Gives (Builtin.«bytes.__mul__» ⟨[.bytes b.toArray t, .int n u], []⟩) m → wpAny (model prog w) A (binaryOp .Mult (.int n u) (.bytes b.toArray t)) Q E s := fun m hm g =>
    lm_binaryOp_repeat_right (T := "bytes") (U := "int") (by decide) (fun s' => typeIs_int s' n u) (PySem.W.typeIs_bytes s _ t) F.fills_int_mul BMul.noFill F.slot_int_mul lm_noRepeat_int BMul.repeats F.slot_int_index.lookup
      (call_gives F.slot_int_mul (typeIs_int s n u) F.entry_int_mul (F.args_int_mul_2 _ _) (int_mul_no_bytes n u _ t)
        ⟨rfl, PySem.W.typeIs_bytes _ _ t, call_gives BMul.slot_mul (PySem.W.typeIs_bytes s _ t) BMul.entry_mul (BMul.args_mul _ _) g hm⟩)
  by_cases h1 : n = 1
  · subst h1
    have h' := h t s.toks
    have e : (List.replicate (1 : Int).toNat b).flatten = b := by simp
    rw [e] at h'
    exact go (.val (.bytes b.toArray t)) h' (BMul.gives_mul1 (by rw [e3]; omega))
  · have hf : Builtin.Bytes.fitsIndex n = true := by
      simp only [Builtin.Bytes.fitsIndex, Bool.and_eq_true, decide_eq_true_eq]
      omega
    have h63 : ¬ b.toArray.size * n.toNat ≥ 2 ^ 63 := by rw [e3]; omega
    have hne : (b.toArray.size * n.toNat == b.toArray.size) = false := by
      rw [e3]
      refine beq_false_of_ne fun e => ?_
      rcases Nat.lt_or_ge n.toNat 2 with h2 | h2
      · have h0 : n.toNat = 0 := by omega
        rw [h0] at e
        omega
      · have e2 : b.length * 2 ≤ b.length * n.toNat := Nat.mul_le_mul_left _ h2
        omega
    have hl : Builtin.Bytes.tooLong (b.toArray.size * n.toNat) = false := by rw [e3]; exact KBy.tooLong_not hle
    refine go _ ?_ (BMul.gives_mul hf h63 hne hl)
    rw [BMul.repeated_list hb]
    refine ⟨?_, h _ _⟩
    rw [sizeLine_eq]
    have e4 : ((List.replicate n.toNat b).flatten.toArray).size = n.toNat * b.length := by simp
    rw [e4, Nat.mul_comm]
    exact hle
end

section
variable {Fx : Fn} {C : Cx Fx} {E : Value → Vals → Led → Prop} {V : Vals} {H : Led}

theorem Vw.keeps {s : Shared} (v : Vw C V H s) {h' : Heap} (k : ∀ a o, s.heap.get? a = some o → h'.get? a = some o) : Vw C V H { s with heap := h' } := by
  obtain ⟨oL, es, ep, hL, r⟩ := v.fr.ns
  exact ⟨⟨⟨oL, es, ep, k _ _ hL, r⟩, fun b ob eb => k _ _ (v.old eb), v.fr.above⟩, fun p hp => ⟨k _ _ (v.nw p hp).1, (v.nw p hp).2⟩, v.nd, v.gens, v.os⟩
theorem Vw.ext {s : Shared} (v : Vw C V H s) {h' : Heap} {n : Nat} (hn : s.heap.objs.size ≤ n) (e : Heap.ExtBut n s.heap h') : Vw C V H { s with heap := h' } :=
  v.keeps fun a o ha => e a o (fun q => Nat.lt_irrefl _ (Nat.lt_of_lt_of_le (q ▸ Heap.lt_size ha) hn)) ha

theorem w_rmul_S {a : List Nat} {t u : Tok} {n : Int} {Q : Value → Vals → Led → Prop} (hx : a ≠ []) (hlo : -1048576 ≤ n) (hs : a.length * n.toNat ≤ 16777216) (h : ∀ k, Q (.str (S (List.replicate n.toNat a).flatten) k) V H) :
    W C E (binaryOp .Mult (.int n u) (.str (S a) t)) V H Q := .mk fun s v =>
  rmul_str (mulOk_S a n hs hlo hx) fun t' k => ⟨V, H, v.toks _, by rw [mul_S a n hs hx]; exact h _⟩
theorem w_rmul_B {b : List UInt8} {t u : Tok} {n : Int} {Q : Value → Vals → Led → Prop} (hb : b ≠ []) (hlo : -1048576 ≤ n) (hn : n ≤ 1048576) (hs : b.length ≤ 16) (h : ∀ k, Q (.bytes ((List.replicate n.toNat b).flatten).toArray k) V H) :
    W C E (binaryOp .Mult (.int n u) (.bytes b.toArray t)) V H Q := .mk fun s v =>
  rmul_bytes hb hlo hn hs fun t' k => ⟨V, H, v.toks _, h _⟩

/-! min of two -/
theorem w_min2 {a b : Int} {t u : Tok} {Q : Value → Vals → Led → Prop} (h : ∀ k, Q (.int (min a b) k) V H) : W C E (call (.builtin "min") [.int a t, .int b u]) V H Q := .mk fun s v =>
  min_two_ints C.aok.hnd.symm.symm fun h' tk k => by
    have v' : Vw C V H { s with heap := h', toks := tk } := (v.keeps k).toks tk
    by_cases c : b < a
    · rw [if_pos c]; have := h u; rw [Int.min_eq_right (by omega)] at this; exact ⟨V, H, v', this⟩
    · rw [if_neg c]; have := h t; rw [Int.min_eq_left (by omega)] at this; exact ⟨V, H, v', this⟩

/-! while -/
theorem w_While {test : Expr} {body : List Stmt} {pos : Pos} {Q : Flow → Vals → Led → Prop} (I : Nat → Vals → Led → Prop) {n : Nat} (h0 : I n V H)
    (turn : ∀ n V H, I n V H → W C NoE (isTrue test C.env (eval test C.env)) V H (fun b V1 H1 => (b = true → W C NoE (execs body C.env) V1 H1 (Turn (fun V2 H2 => ∃ m, m < n ∧ I m V2 H2) Q)) ∧ (b = false → Q .next V1 H1))) :
    W C E (exec (.While test body [] pos) C.env) V H Q := .mk fun s v => by
  have key : codeAny (model prog C.w) C.A (.whileLoop test body [] C.env) (fun r s' => match r with | .ok f => ∃ V' H', Vw C V' H' s' ∧ Q f V' H' | .error _ => False) s := by
    refine codeAny_whileLoop (fun n s => ∃ V H, Vw C V H s ∧ I n V H) (fun n s hI => ?_) n ⟨V, H, v, h0⟩
    obtain ⟨V, H, v, hI⟩ := hI
    refine wpAny_mono ((turn n V H hI).run s v) (fun b s₁ ⟨V1, H1, v1, q⟩ => ?_) fun _ _ ⟨_, _, _, x⟩ => x.elim
    cases b with
    | false =>
      simp only [Bool.false_eq_true, if_false]
      exact wpAny_execs_nil ⟨V1, H1, v1, q.2 rfl⟩
    | true =>
      simp only [if_true]
      refine wpAny_mono ((q.1 rfl).run s₁ v1) (fun f s₂ ⟨V2, H2, v2, q⟩ => ?_) fun _ _ ⟨_, _, _, x⟩ => x.elim
      cases f with
      | next => obtain ⟨m, hm, hI'⟩ := q; exact ⟨m, hm, V2, H2, v2, hI'⟩
      | cont => obtain ⟨m, hm, hI'⟩ := q; exact ⟨m, hm, V2, H2, v2, hI'⟩
      | brk => exact ⟨V2, H2, v2, q⟩
      | ret x => exact ⟨V2, H2, v2, q⟩
  refine wpAny_While (codeAny_mono key fun r s' hr => ?_)
  cases r with
  | ok f => exact hr
  | error e => exact hr.elim

/-! several targets -/
theorem w_aio_nil {vs : List Value} {Q : Unit → Vals → Led → Prop} (h : Q () V H) : W C E (assignInOrder [] vs) V H Q := w_pure h
theorem w_aio_cons {e : Expr} {es : List Expr} {x : Value} {xs : List Value} {Q : Unit → Vals → Led → Prop} (h : W C E (assign e C.env x) V H (fun _ V1 H1 => W C E (assignInOrder ((assignEach es C.env).map (·.2)) xs) V1 H1 Q))
    (he : assignEach (e :: es) C.env = (false, assign e C.env) :: assignEach es C.env := by kernel_rfl) : W C E (assignInOrder ((assignEach (e :: es) C.env).map (·.2)) (x :: xs)) V H Q := by
  rw [he]
  show W C E (holding xs (assign e C.env x) >>= fun _ => assignInOrder ((assignEach es C.env).map (·.2)) xs) V H Q
  exact w_bind (w_holding h)
theorem w_aio_end {Q : Unit → Vals → Led → Prop} (h : Q () V H) : W C E (assignInOrder ((assignEach [] C.env).map (·.2)) []) V H Q := w_pure h
theorem w_assign_Tup {elts : List Expr} {k : Nat} {tpos : Pos} {t : Addr} {vs : List Value} {Q : Unit → Vals → Led → Prop} (ht : Has C H t (tupO vs)) (hn : (assignEach elts C.env).length = vs.length)
    (hstar : (assignEach elts C.env).findIdx? (·.1) = none) (h : W C E (assignInOrder ((assignEach elts C.env).map (·.2)) vs) V H Q) : W C E (assign (.Tuple elts k tpos) C.env (.ref t)) V H Q := by
  rw [arm_assign_Tuple]
  refine w_bind (w_standAt ?_)
  unfold unpack
  rw [hstar, hn]
  refine w_bind (w_holding (.mk fun s v => ?_))
  have e : vs.length = vs.toArray.size := by simp
  rw [e]
  refine unpackItems_tuple C.aok.hnd ⟨_, ht.at v, rfl, 0, rfl⟩ fun h' he => ⟨V, H, v.ext (Nat.le_refl _) he, ?_⟩
  simpa using h
/-- t1, t2 = v -/
theorem w_AssignTup {elts : List Expr} {k : Nat} {tpos pos : Pos} {value : Expr} {Q : Flow → Vals → Led → Prop}
    (h : W C E (eval value C.env) V H (fun v V1 H1 => W C E (assign (.Tuple elts k tpos) C.env v) V1 H1 (fun _ V2 H2 => Q .next V2 H2)))
    (hs : swapsWithSole [.Tuple elts k tpos] value pos.line C.env = Pure.pure false := by kernel_rfl) (hw : swappedStores [.Tuple elts k tpos] value C.env = Pure.pure none := by kernel_rfl) :
    W C E (exec (.Assign [.Tuple elts k tpos] value pos) C.env) V H Q := w_Assign1 hs hw h

/-! over a list, a tuple -/
theorem w_own {target : Expr} {it : Addr} {o : Obj} {n : String} {x : Value} {Q : Unit → Vals → Led → Prop} (hm : (it, o) ∈ H) (hc : o.cls = .type n)
    (hn : ["enumerate", "zip", "dict_itemiterator", "dict_reverseitemiterator", "odict_iterator", "itertools.zip_longest", "itertools.pairwise"].contains n = false) (h : Q () V H) : W C E (letOwnedTupleGo target (.ref it) x) V H Q := by
  have go : W C E (do
      let (.ref r, .ref a) := ((Value.ref it, x) : Value × Value) | return
      let o ← load r
      match o.cls, o.data with
      | .type n, .fields vs =>
        if ["enumerate", "zip", "dict_itemiterator", "dict_reverseitemiterator", "odict_iterator", "itertools.zip_longest", "itertools.pairwise"].contains n && vs[0]? == some (rawInt a) then
          rule "for.unpacks-the-owned-tuple"
          updateField r 0 .none
      | _, _ => pure ()) V H Q := by
    split
    · rename_i r a e
      cases e
      refine .mk fun s v => wpAny_bind (wpAny_load (v.at hm) ?_)
      split
      · rename_i n' vs e1 e2
        rw [hc] at e1; cases e1
        rw [hn]
        exact wpAny_pure ⟨V, H, v, h⟩
      · exact wpAny_pure ⟨V, H, v, h⟩
    · exact w_pure h
  unfold letOwnedTupleGo
  split
  · exact go
  · exact go
  · exact w_pure h

theorem loop_items {target : Expr} {it : Addr} {body : List Stmt} {vs : List Value} {Q : Flow → Vals → Led → Prop} {P : Nat → Obj → Prop} {KH : Led → Prop} {cn : String} {o₀ : Obj}
    (hcls : ∀ i o, P i o → o.cls = .type cn) (hcn : ["enumerate", "zip", "dict_itemiterator", "dict_reverseitemiterator", "odict_iterator", "itertools.zip_longest", "itertools.pairwise"].contains cn = false)
    (next : ∀ i x V H o Q, vs[i]? = some x → P i o → KH H → (∀ o', P (i + 1) o' → Q (some x) V ((it, o') :: H)) → W C NoE (pyNext (.ref it)) V ((it, o) :: H) Q)
    (stop : ∀ V H o Q, P vs.length o → KH H → Q none V H → W C NoE (pyNext (.ref it)) V ((it, o) :: H) Q)
    (I : Nat → Vals → Led → Prop) (hK : ∀ i V H, I i V H → KH H) (h0 : I 0 V H) (hP : P 0 o₀)
    (step : ∀ i x V H o, vs[i]? = some x → I i V H → W C NoE (assign target C.env x) V ((it, o) :: H) (fun _ V2 H2 => W C NoE (execs body C.env) V2 H2
      (Turn (fun V3 H3 => ∃ H', SubP ((it, o) :: H') H3 ∧ I (i + 1) V3 H') Q)))
    (fin : ∀ V H, I vs.length V H → Q .next V H) : Loop C target (.ref it) body V ((it, o₀) :: H) Q := by
  refine loop_inv (fun m V H => ∃ i o H', i + m = vs.length ∧ P i o ∧ SubP ((it, o) :: H') H ∧ I i V H') (fun m V H ⟨i, o, H', hm, hp, hs, hI⟩ => w_drop' hs ?_) (n := vs.length) ⟨0, o₀, H, by omega, hP, .rfl, h0⟩
  by_cases hi : i < vs.length
  · refine next i vs[i] V H' o _ (List.getElem?_eq_getElem hi) hp (hK _ _ _ hI) fun o' hp' => ?_
    dsimp only
    refine w_own (.head _) (hcls _ _ hp') hcn ?_
    refine (step i _ V H' o' (List.getElem?_eq_getElem hi) hI).mono fun _ V2 H2 q => q.mono fun f V3 H3 q => ?_
    have key : ∀ V3 H3, (∃ H', SubP ((it, o') :: H') H3 ∧ I (i + 1) V3 H') → ∃ m', m' < m ∧ ∃ i o H', i + m' = vs.length ∧ P i o ∧ SubP ((it, o) :: H') H3 ∧ I i V3 H' := fun V3 H3 ⟨H', a, b⟩ =>
      ⟨m - 1, by omega, i + 1, o', H', by omega, hp', a, b⟩
    cases f with
    | next => exact key _ _ q
    | cont => exact key _ _ q
    | brk => exact q
    | ret v => exact q
  · have : i = vs.length := by omega
    subst this
    exact stop V H' o _ hp (hK _ _ _ hI) (fin _ _ hI)

noncomputable def LIt (l : Addr) (i : Nat) (o : Obj) : Prop := o.cls = .type "list_iterator" ∧ o.data = .fields #[.ref l, .int i 0]
noncomputable def TIt (l : Addr) (i : Nat) (o : Obj) : Prop := o.cls = .type "tuple_iterator" ∧ o.data = .fields #[.ref l, .int i 0]
theorem w_iter_list {l : Addr} {o : Obj} {vs : List Value} {Q : Value → Vals → Led → Prop} (hl : Has C H l o) (lo : LO o vs) (h : ∀ it o, LIt l 0 o → Q (.ref it) V ((it, o) :: H)) : W C E (pyIter (.ref l)) V H Q := .mk fun s v =>
  wpAny_pyIter_list (lo.isList (hl.at v)) ⟨V, _, v.push rfl, h _ _ ⟨rfl, rfl⟩⟩
theorem w_iter_tup {l : Addr} {vs : List Value} {Q : Value → Vals → Led → Prop} (hl : Has C H l (tupO vs)) (h : ∀ it o, TIt l 0 o → Q (.ref it) V ((it, o) :: H)) : W C E (pyIter (.ref l)) V H Q := .mk fun s v =>
  wpAny_pyIter_tuple (items := vs.toArray) ⟨_, hl.at v, rfl, 0, rfl⟩ ⟨V, _, v.push rfl, h _ _ ⟨rfl, rfl⟩⟩
theorem Has.cons {H : Led} {a : Addr} {o : Obj} {p : Addr × Obj} (h : Has C H a o) : Has C (p :: H) a o := h.imp (fun m => .tail _ m) id
theorem loop_list {target : Expr} {it l : Addr} {ol : Obj} {body : List Stmt} {vs : List Value} {Q : Flow → Vals → Led → Prop} {o₀ : Obj} (hP : LIt l 0 o₀) (lo : LO ol vs)
    (I : Nat → Vals → Led → Prop) (hK : ∀ i V H, I i V H → Has C H l ol) (h0 : I 0 V H)
    (step : ∀ i x V H o, vs[i]? = some x → I i V H → W C NoE (assign target C.env x) V ((it, o) :: H) (fun _ V2 H2 => W C NoE (execs body C.env) V2 H2
      (Turn (fun V3 H3 => ∃ H', SubP ((it, o) :: H') H3 ∧ I (i + 1) V3 H') Q)))
    (fin : ∀ V H, I vs.length V H → Q .next V H) : Loop C target (.ref it) body V ((it, o₀) :: H) Q :=
  loop_items (P := LIt l) (KH := fun H => Has C H l ol) (fun _ _ h => h.1) (by decide)
    (fun i x V H o Q hx hp hk h => .mk fun s v => wpAny_pyNext_list_item ⟨o, v.at (.head _), hp.1, hp.2⟩ (lo.isList (hk.cons.at v)) (by simpa using hx) fun h' ⟨o', e, c, d⟩ sb => ⟨V, _, v.upd .head sb e, h o' ⟨c, d⟩⟩)
    (fun V H o Q hp hk h => .mk fun s v => wpAny_pyNext_list_end C.aok.hnd ⟨o, v.at (.head _), hp.1, hp.2⟩ (lo.isList (hk.cons.at v)) (by simp) fun h' e => ⟨V, H, v.extBut rfl e, h⟩)
    I hK h0 hP step fin
theorem loop_tup {target : Expr} {it l : Addr} {body : List Stmt} {vs : List Value} {Q : Flow → Vals → Led → Prop} {o₀ : Obj} (hP : TIt l 0 o₀)
    (I : Nat → Vals → Led → Prop) (hK : ∀ i V H, I i V H → Has C H l (tupO vs)) (h0 : I 0 V H)
    (step : ∀ i x V H o, vs[i]? = some x → I i V H → W C NoE (assign target C.env x) V ((it, o) :: H) (fun _ V2 H2 => W C NoE (execs body C.env) V2 H2
      (Turn (fun V3 H3 => ∃ H', SubP ((it, o) :: H') H3 ∧ I (i + 1) V3 H') Q)))
    (fin : ∀ V H, I vs.length V H → Q .next V H) : Loop C target (.ref it) body V ((it, o₀) :: H) Q :=
  loop_items (P := TIt l) (KH := fun H => Has C H l (tupO vs)) (fun _ _ h => h.1) (by decide)
    (fun i x V H o Q hx hp hk h => .mk fun s v => wpAny_pyNext_tuple_item (items := vs.toArray) ⟨o, v.at (.head _), hp.1, hp.2⟩ ⟨_, hk.cons.at v, rfl, 0, rfl⟩ (by simpa using hx) fun h' ⟨o', e, c, d⟩ sb => ⟨V, _, v.upd .head sb e, h o' ⟨c, d⟩⟩)
    (fun V H o Q hp hk h => .mk fun s v => wpAny_pyNext_tuple_end (items := vs.toArray) C.aok.hnd ⟨o, v.at (.head _), hp.1, hp.2⟩ ⟨_, hk.cons.at v, rfl, 0, rfl⟩ (by simp) fun h' e => ⟨V, H, v.extBut rfl e, h⟩)
    I hK h0 hP step fin
end
-- part B11
theorem sc0 : Str.ofString "" = S [] := by decide +kernel
theorem sc1 : Str.ofString "1" = S [49] := by decide +kernel
theorem sc2 : Str.ofString "0" = S [48] := by decide +kernel
theorem sc3 : Str.ofString "<" = S [60] := by decide +kernel
theorem sc4 : Str.ofString ">" = S [62] := by decide +kernel
theorem sc5 : Str.ofString "s" = S [115] := by decide +kernel
theorem sc6 : Str.ofString "u" = S [117] := by decide +kernel
theorem sc7 : Str.ofString "f" = S [102] := by decide +kernel
theorem sc8 : Str.ofString "b" = S [98] := by decide +kernel
theorem sc9 : Str.ofString "t" = S [116] := by decide +kernel
theorem sc10 : Str.ofString "r" = S [114] := by decide +kernel
theorem sc11 : Str.ofString "p" = S [112] := by decide +kernel
theorem sc12 : Str.ofString "P" = S [80] := by decide +kernel
theorem sc13 : Str.ofString "pP" = S [112, 80] := by decide +kernel
theorem sc14 : Str.ofString "><" = S [62, 60] := by decide +kernel
theorem sc15 : Str.ofString "L" = S [76] := by decide +kernel
theorem sc16 : Str.ofString "10000000" = S [49, 48, 48, 48, 48, 48, 48, 48] := by decide +kernel
theorem sc17 : Str.ofString "utf-8" = S [117, 116, 102, 45, 56] := by decide +kernel
theorem sc18 : Str.ofString "ascii" = S [97, 115, 99, 105, 105] := by decide +kernel
theorem sc19 : Str.ofString "latin-1" = S [108, 97, 116, 105, 110, 45, 49] := by decide +kernel
theorem sc20 : Str.ofString "strict" = S [115, 116, 114, 105, 99, 116] := by decide +kernel
theorem sc21 : Str.ofString "replace" = S [114, 101, 112, 108, 97, 99, 101] := by decide +kernel
theorem sc22 : Str.ofString "fill_padding" = S [102, 105, 108, 108, 95, 112, 97, 100, 100, 105, 110, 103] := by decide +kernel
theorem sc23 : Str.ofString "rt" = S [114, 116] := by decide +kernel
theorem sc24 : Str.ofString "usbrtpP" = S [117, 115, 98, 114, 116, 112, 80] := by decide +kernel
theorem sc25 : Str.ofString " " = S [32] := by decide +kernel
theorem sc26 : Str.ofString "big" = S [98, 105, 103] := by decide +kernel

theorem SubP.nil : ∀ {B : Led}, SubP [] B
  | [] => .rfl
  | _ :: _ => .skip SubP.nil
section
variable {Fx : Fn} {C : Cx Fx} {E : Value → Vals → Led → Prop} {V : Vals} {H : Led}
theorem Loop.sub {target : Expr} {it : Value} {body : List Stmt} {H' : Led} {Q : Flow → Vals → Led → Prop} (hs : SubP H' H) (h : Loop C target it body V H' Q) : Loop C target it body V H Q :=
  ⟨fun s v => h.run s (v.subP hs)⟩
theorem W.shrink {α : Type} {t : Sem α} {Q : α → Vals → Led → Prop} (h : W C E t V H (fun a V' H' => ∃ H'', SubP H'' H' ∧ Q a V' H'')) : W C E t V H Q :=
  .mk fun s v => wpAny_mono (h.run s v) (fun _ _ ⟨V', H', v', H'', hs, q⟩ => ⟨V', H'', v'.subP hs, q⟩) fun _ _ x => x
theorem w_IfJ {test : Expr} {body orelse : List Stmt} {pos : Pos} {Q : Flow → Vals → Led → Prop} (J : Vals → Led → Prop)
    (h : W C E (isTrue test C.env (eval test C.env)) V H (fun b V' H' => (b = true → W C E (execs body C.env) V' H' (fun f V2 H2 => f = .next ∧ J V2 H2)) ∧ (b = false → W C E (execs orelse C.env) V' H' (fun f V2 H2 => f = .next ∧ J V2 H2))))
    (k : ∀ V2 H2, J V2 H2 → Q .next V2 H2) : W C E (exec (.If test body orelse pos) C.env) V H Q :=
  w_If (h.mono fun b V' H' q => ⟨fun hb => (q.1 hb).mono fun f V2 H2 ⟨e, j⟩ => e ▸ k V2 H2 j, fun hb => (q.2 hb).mono fun f V2 H2 ⟨e, j⟩ => e ▸ k V2 H2 j⟩)
theorem w_cwA {pos : Pos} {f : Value} {e : Expr} {rest : List Expr} {Q : Value → Vals → Led → Prop}
    (h : W C E (spliced (backTo pos (starEach (e :: rest) C.env))) V H (fun vs V1 H1 => Kept C H1 f ∧ W C E (call f vs) V1 H1 Q))
    (he : starEach (e :: rest) C.env = (false, eval e C.env) :: starEach rest C.env := by kernel_rfl) (hplain : (backTo pos (starEach rest C.env)).any (·.1) = false := by kernel_rfl) :
    W C E (callWith pos f [] (backTo pos (starEach (e :: rest) C.env)) (backToKw pos (keywordEach [] C.env))) V H Q := w_cw h he hplain
theorem w_cwM {pos : Pos} {f x : Value} {e : Expr} {rest : List Expr} {Q : Value → Vals → Led → Prop}
    (h : W C E (spliced (backTo pos (starEach (e :: rest) C.env))) V H (fun vs V1 H1 => Kept C H1 f ∧ W C E (call f (x :: vs)) V1 H1 Q))
    (he : starEach (e :: rest) C.env = (false, eval e C.env) :: starEach rest C.env := by kernel_rfl) (hplain : (backTo pos (starEach rest C.env)).any (·.1) = false := by kernel_rfl) :
    W C E (callWith pos f [x] (backTo pos (starEach (e :: rest) C.env)) (backToKw pos (keywordEach [] C.env))) V H Q := w_cw h he hplain
theorem w_cwA0 {pos : Pos} {f : Value} {Q : Value → Vals → Led → Prop} (h : Kept C H f ∧ W C E (call f []) V H Q) :
    W C E (callWith pos f [] (backTo pos (starEach [] C.env)) (backToKw pos (keywordEach [] C.env))) V H Q := w_cw0 h.1 h.2
theorem w_cwM0 {pos : Pos} {f x : Value} {Q : Value → Vals → Led → Prop} (h : Kept C H f ∧ W C E (call f [x]) V H Q) :
    W C E (callWith pos f [x] (backTo pos (starEach [] C.env)) (backToKw pos (keywordEach [] C.env))) V H Q := w_cw0 h.1 h.2
theorem w_spz {m : Nat} {t : Sem Value} {V : Vals} {H : Led} {pre : Heap → Prop} {Qs : Value → Led → Prop} {E : Value → Vals → Led → Prop} {Q : Value → Vals → Led → Prop}
    (hsp : Sp C.w m t [] pre Qs NoX) (hm : m ≤ C.n) (hpre : ∀ h : Heap, (∀ a o, Has C H a o → h.get? a = some o) → pre h) (hz : ∀ v P', Qs v P' → P' = []) (h : ∀ v P', Qs v P' → Q v V H) :
    W C E t V H Q := w_sp hsp hm (.refl _) hpre fun v P' q => by have := hz v P' q; subst this; exact h v [] q
theorem Has.l {a : Addr} {o : Obj} (h : (a, o) ∈ H) : Has C H a o := .inl h
theorem Has.o {a : Addr} {o : Obj} (h : C.h₀.get? a = some o) : Has C H a o := .inr h
theorem w_dropV {e : Expr} {pos : Pos} {v : Value} {Q : Flow → Vals → Led → Prop} (h : Q .next V H) : W C E (dropValue e pos v) V H Q := .mk fun s vw => wpAny_dropValue ⟨V, H, vw, h⟩
theorem w_sp' {m : Nat} {t : Sem Value} {P R : Led} {V : Vals} {H : Led} {pre : Heap → Prop} {Qs : Value → Led → Prop} {E : Value → Vals → Led → Prop} {Q : Value → Vals → Led → Prop}
    (hsp : Sp C.w m t P pre Qs NoX) (hm : m ≤ C.n) (hH : SubP (P ++ R) H) (hpre : ∀ h : Heap, (∀ a o, Has C R a o → h.get? a = some o) → pre h) (h : ∀ v P', Qs v P' → Q v V (P' ++ R)) :
    W C E t V H Q := w_drop' hH (w_sp hsp hm (.refl _) hpre h)
end
-- part Pu1
/-! digits -/
noncomputable def digs (b : Nat) : Nat → Nat → List Nat
  | 0, _ => []
  | k + 1, m => digs b k (m / b) ++ [m % b]
noncomputable def foldD (b : Nat) (ds : List Nat) (a : Nat) : Nat := ds.foldl (fun acc d => acc * b + d) a
theorem digs_len (b : Nat) : ∀ k m, (digs b k m).length = k
  | 0, _ => rfl
  | k + 1, m => by simp [digs, digs_len b k]
theorem digs_lt {b : Nat} (hb : 0 < b) : ∀ k m, ∀ d ∈ digs b k m, d < b
  | 0, _ => by intro d hd; cases hd
  | k + 1, m => by
    intro d hd
    rcases List.mem_append.mp hd with h | h
    · exact digs_lt hb k _ d h
    · rw [List.mem_singleton.mp h]; exact Nat.mod_lt _ hb
theorem foldD_append (b : Nat) (x y : List Nat) (a : Nat) : foldD b (x ++ y) a = foldD b y (foldD b x a) := by simp [foldD]
theorem foldD_digs {b : Nat} (hb : 0 < b) : ∀ k m a, foldD b (digs b k m) a = a * b ^ k + m % b ^ k
  | 0, m, a => by simp [foldD, digs, Nat.mod_one]
  | k + 1, m, a => by
    rw [digs, foldD_append, foldD_digs hb k]
    show (a * b ^ k + m / b % b ^ k) * b + m % b = _
    have e : m % b ^ (k + 1) = m / b % b ^ k * b + m % b := by
      rw [Nat.pow_succ, Nat.mul_comm (b ^ k) b, Nat.mod_mul, Nat.mul_comm b, Nat.add_comm]
    rw [e, Nat.add_mul, Nat.mul_assoc, ← Nat.pow_succ, Nat.succ_eq_add_one]
    omega
noncomputable def hexCh (d : Nat) : Nat := if d < 10 then 48 + d else 87 + d
theorem digitCh : ∀ d, d < 16 → (Nat.digitChar d).toNat = hexCh d := by decide
theorem toDigits_digs {b : Nat} (hb : 2 ≤ b) (hb2 : b ≤ 16) {c : Nat} (hc : 0 < c) : ∀ k m, m < b ^ k → (Nat.toDigits b (c * b ^ k + m)).map Char.toNat = (Nat.toDigits b c).map Char.toNat ++ (digs b k m).map hexCh
  | 0, m, h => by
    have : m = 0 := by rw [Nat.pow_zero] at h; omega
    subst this; simp [digs]
  | k + 1, m, h => by
    have hm : m / b < b ^ k := by rw [Nat.div_lt_iff_lt_mul (by omega), ← Nat.pow_succ]; exact h
    have hr : m % b < b := Nat.mod_lt _ (by omega)
    have hp : 0 < c * b ^ k + m / b := Nat.lt_of_lt_of_le (Nat.mul_pos hc (Nat.pow_pos (by omega))) (Nat.le_add_right _ _)
    have e : c * b ^ (k + 1) + m = b * (c * b ^ k + m / b) + m % b := by
      have := Nat.div_add_mod m b
      rw [Nat.mul_add, Nat.pow_succ, ← Nat.mul_assoc, Nat.mul_comm b (c * b ^ k)]
      omega
    rw [e, ← Nat.toDigits_append_toDigits (by omega) hp hr, List.map_append, toDigits_digs hb hb2 hc k _ hm, Nat.toDigits_of_lt_base hr, digs, List.map_append, List.append_assoc]
    simp only [List.map_cons, List.map_nil]
    rw [digitCh _ (by omega)]
theorem ofList_S (l : List Char) : Str.ofString (String.ofList l) = S (l.map Char.toNat) := by
  rw [Str.ofString_eq_toList, String.toList_ofList]
theorem base_digs {b : Nat} (hb : 2 ≤ b) (hb2 : b ≤ 16) {c k m : Nat} (hc : 0 < c) (hm : m < b ^ k) {pre : String} {pl cl : List Nat} (hp : Str.ofString pre = S pl) (hcl : (Nat.toDigits b c).map Char.toNat = cl) :
    baseText pre b ((c * b ^ k + m : Nat) : Int) = S (pl ++ cl ++ (digs b k m).map hexCh) := by
  unfold baseText
  rw [if_neg (by omega), Int.natAbs_natCast, ofList_S (Nat.toDigits _ _), toDigits_digs hb hb2 hc k m hm, hcl, hp, show Str.ofString "" = S [] from sc0, S_add, S_add]
  rw [List.nil_append, List.append_assoc]

/-! bits -/
noncomputable def bitsN (k m : Nat) : List Bool := (digs 2 k m).map fun d => decide (d = 1)
theorem snoc_ind {α : Type} {P : List α → Prop} (h0 : P []) (h1 : ∀ r b, P r → P (r ++ [b])) (l : List α) : P l := by
  have go : ∀ l : List α, P l.reverse := by
    intro l
    induction l with
    | nil => exact h0
    | cons a r ih => rw [List.reverse_cons]; exact h1 _ _ ih
  have := go l.reverse
  rwa [List.reverse_reverse] at this
noncomputable def valb (bs : List Bool) : Nat := foldD 2 (bs.map Bool.toNat) 0
noncomputable def chs (bs : List Bool) : List Nat := bs.map fun b => hexCh b.toNat
theorem chs_append (a b : List Bool) : chs (a ++ b) = chs a ++ chs b := List.map_append
theorem chs_len (a : List Bool) : (chs a).length = a.length := List.length_map ..
theorem chs_drop (a : List Bool) (n : Nat) : (chs a).drop n = chs (a.drop n) := by simp [chs]
theorem chs_take (a : List Bool) (n : Nat) : (chs a).take n = chs (a.take n) := by simp [chs]
theorem chs_rev (a : List Bool) : (chs a).reverse = chs a.reverse := by simp [chs]
theorem toNat_dec {l : List Nat} (h : ∀ d ∈ l, d < 2) : (l.map fun d => decide (d = 1)).map Bool.toNat = l := by
  rw [List.map_map]
  conv => rhs; rw [← List.map_id l]
  refine List.map_congr_left fun d hd => ?_
  have := h d hd
  show (decide (d = 1)).toNat = d
  rcases d with _ | _ | d
  · rfl
  · rfl
  · omega
theorem bits_toNat (k m : Nat) : (bitsN k m).map Bool.toNat = digs 2 k m := toNat_dec (digs_lt (by decide) k m)
theorem chs_bits (k m : Nat) : chs (bitsN k m) = (digs 2 k m).map hexCh := by
  rw [← bits_toNat, List.map_map]; rfl
theorem bitsN_len (k m : Nat) : (bitsN k m).length = k := by simp [bitsN, digs_len]
theorem foldD_acc (ds : List Nat) (a : Nat) : foldD 2 ds a = a * 2 ^ ds.length + foldD 2 ds 0 := by
  induction ds generalizing a with
  | nil => simp [foldD]
  | cons d r ih =>
    show foldD 2 r (a * 2 + d) = _ + foldD 2 r (0 * 2 + d)
    rw [ih, ih (0 * 2 + d), List.length_cons, Nat.pow_succ]
    rw [Nat.add_mul, Nat.add_mul, Nat.zero_mul, Nat.zero_add, Nat.mul_assoc, Nat.mul_comm 2, Nat.add_assoc]
theorem valb_append (a b : List Bool) : valb (a ++ b) = valb a * 2 ^ b.length + valb b := by
  unfold valb
  rw [List.map_append, foldD_append, foldD_acc, List.length_map]
theorem valb_snoc (a : List Bool) (b : Bool) : valb (a ++ [b]) = valb a * 2 + b.toNat := by
  rw [valb_append]; simp [valb, foldD]
theorem valb_lt (a : List Bool) : valb a < 2 ^ a.length := by
  induction a using snoc_ind with
  | h0 => decide
  | h1 r b ih =>
    rw [valb_snoc, List.length_append, List.length_singleton, Nat.pow_succ]
    cases b <;> simp only [Bool.toNat_true, Bool.toNat_false] <;> omega
theorem valb_bits (k m : Nat) : valb (bitsN k m) = m % 2 ^ k := by
  unfold valb; rw [bits_toNat, foldD_digs (by decide)]; simp
theorem bitsN_succ (k m : Nat) : bitsN (k + 1) m = bitsN k (m / 2) ++ [decide (m % 2 = 1)] := by
  unfold bitsN; rw [digs, List.map_append]; rfl
theorem bits_valb (a : List Bool) : bitsN a.length (valb a) = a := by
  induction a using snoc_ind with
  | h0 => rfl
  | h1 r b ih =>
    rw [List.length_append, List.length_singleton, bitsN_succ, valb_snoc]
    have e1 : (valb r * 2 + b.toNat) / 2 = valb r := by cases b <;> simp <;> omega
    have e2 : decide ((valb r * 2 + b.toNat) % 2 = 1) = b := by cases b <;> simp <;> omega
    rw [e1, e2, ih]
theorem bitsN_mod {k j m : Nat} (h : k ≤ j) : bitsN k (m % 2 ^ j) = bitsN k m := by
  have e : ∀ x y : List Bool, x.length = y.length → valb x = valb y → x = y := fun x y hl hv => by
    rw [← bits_valb x, ← bits_valb y, hl, hv]
  refine e _ _ (by rw [bitsN_len, bitsN_len]) ?_
  rw [valb_bits, valb_bits, Nat.mod_mod_of_dvd _ (Nat.pow_dvd_pow 2 h)]
theorem bits_ext {x y : List Bool} (hl : x.length = y.length) (hv : valb x = valb y) : x = y := by
  rw [← bits_valb x, ← bits_valb y, hl, hv]
theorem bitsN_append (j k m : Nat) : bitsN (j + k) m = bitsN j (m / 2 ^ k) ++ bitsN k m := by
  refine bits_ext (by simp [bitsN_len]) ?_
  rw [valb_append, bitsN_len, valb_bits, valb_bits, valb_bits, Nat.pow_add, Nat.mul_comm (2 ^ j), Nat.mod_mul, Nat.mul_comm (2 ^ k)]
  omega

/-! reading numbers -/
theorem digitVal_hex : ∀ d, d < 16 → (int_private% "digitValue?") (hexCh d) = some d := by decide
theorem blank_hex : ∀ d, d < 16 → (int_private% "isBlank") (hexCh d) = false := by decide
theorem hex_ne : ∀ d, d < 16 → hexCh d ≠ 95 ∧ hexCh d ≠ 45 ∧ hexCh d ≠ 43 ∧ hexCh d ≠ 0 ∧ hexCh d < 128 := by decide
theorem numeralDigits_hex {b : Nat} (hb : b ≤ 16) (ds : List Nat) (hd : ∀ d ∈ ds, d < b) (hne : ds ≠ []) : (int_private% "numeralDigits?") b (ds.map hexCh) = some ds.toArray := by
  have go : ∀ (ds : List Nat), (∀ d ∈ ds, d < b) → ∀ (acc : Array Nat) (f : Bool), (ds.map hexCh).foldlM (m := Option) (fun (x : Array Nat × Bool) c =>
      if c == 95 then (if x.2 = true then some (x.1, false) else none)
      else match (int_private% "digitValue?") c with
        | some d => if d < b then some (x.1.push d, true) else none
        | none => none) (acc, f) = some (acc ++ ds.toArray, f || !ds.isEmpty) := by
    intro ds
    induction ds with
    | nil => intro _ acc f; simp
    | cons d r ih =>
      intro h acc f
      have h1 := h d (.head _)
      rw [List.map_cons, List.foldlM_cons]
      have n95 : (hexCh d == 95) = false := by simp [(hex_ne d (by omega)).1]
      have e : (if (hexCh d == 95) = true then (if f = true then some (acc, false) else none)
        else match (int_private% "digitValue?") (hexCh d) with
          | some d => if d < b then some (acc.push d, true) else none
          | none => none : Option (Array Nat × Bool)) = some (acc.push d, true) := by
        rw [n95, digitVal_hex d (by omega)]; simp [h1]
      refine (congrArg (· >>= _) e).trans ?_
      refine (ih (fun x hx => h x (.tail _ hx)) (acc.push d) true).trans ?_
      simp
  have := go ds hd #[] false
  refine (congrArg (· >>= fun (x : Array Nat × Bool) => if x.2 = true then some x.1 else none) this).trans ?_
  simp [hne]
-- part Ru1
theorem read_hex {b : Nat} (hb : b = 2 ∨ b = 16) (ds : List Nat) (hd : ∀ d ∈ ds, d < b) (hne : ds ≠ []) (hp : ds[1]? ≠ some 11) :
    (int_private% "readNumeral") 0 b (ds.map hexCh) = (int_private% "Numeral.value") (foldD b ds 0 : Nat) := by
  have hb16 : b ≤ 16 := by omega
  have nb : ∀ l : List Nat, (∀ d ∈ l, d < 16) → (l.map hexCh).dropWhile NumText.blank = l.map hexCh := by
    intro l hl
    cases l with
    | nil => rfl
    | cons d r =>
      have : NumText.blank (hexCh d) = false := blank_hex d (hl d (.head _))
      rw [List.map_cons, List.dropWhile_cons, this]; rfl
  have h16 : ∀ d ∈ ds, d < 16 := fun d h => by have := hd d h; omega
  rw [NumText.readNumeral_eq, nb ds h16]
  obtain ⟨d, r, rfl⟩ : ∃ d r, ds = d :: r := by cases ds with | nil => exact absurd rfl hne | cons d r => exact ⟨d, r, rfl⟩
  have hd0 := h16 d (.head _)
  have hsign : NumText.sign ((d :: r).map hexCh) = (false, (d :: r).map hexCh) := by
    rw [List.map_cons]
    unfold NumText.sign
    split
    · rename_i e; injection e with e _; exact absurd e (hex_ne d hd0).2.1
    · rename_i e; injection e with e _; exact absurd e (hex_ne d hd0).2.2.1
    · rfl
  have hbased : NumText.based b ((d :: r).map hexCh) = (b, false, (d :: r).map hexCh) := by
    have hbz : (b == 0) = false := by rcases hb with rfl | rfl <;> rfl
    unfold NumText.based
    split
    · rename_i p hpp
      exfalso
      cases r with
      | nil =>
        unfold NumText.prefix? at hpp
        split at hpp
        · rename_i e; simp only [List.map_cons, List.map_nil, List.cons.injEq] at e; exact absurd e.2 (by intro h; cases h)
        · cases hpp
      | cons d2 r2 =>
        have h2 : d2 < 16 := h16 d2 (.tail _ (.head _))
        have h11 : d2 ≠ 11 := fun e => hp (by rw [e]; rfl)
        have hc : ∀ d, d < 16 → d ≠ 11 → ((hexCh d == 120 || hexCh d == 88) = false ∧ (hexCh d == 111 || hexCh d == 79) = false ∧ (hexCh d == 98 || hexCh d == 66) = false) := by decide
        obtain ⟨q1, q2, q3⟩ := hc d2 h2 h11
        unfold NumText.prefix? at hpp
        split at hpp
        · rename_i c t e
          rw [List.map_cons, List.map_cons] at e
          injection e with _ e
          injection e with e _
          subst e
          rw [q1, q2, q3] at hpp
          cases hpp
        · cases hpp
    · rw [hbz]; rfl
  rw [hsign]
  dsimp only
  rw [hbased]
  dsimp only
  rw [← List.map_reverse, nb _ (fun x hx => h16 x (List.mem_reverse.mp hx)), ← List.map_reverse, List.reverse_reverse, ← NumText.digits_eq, numeralDigits_hex hb16 _ hd hne]
  unfold NumText.judge
  have e1 : (![2, 4, 8, 16, 32].contains b && (0 : Nat) != 0 && decide ((d :: r).toArray.size > 0)) = false := by simp
  have e2 : (b == 10 && decide ((d :: r).toArray.size > 6000)) = false := by rcases hb with rfl | rfl <;> rfl
  simp only [e1, e2, Bool.false_eq_true, if_false, Bool.false_and]
  congr 1
  simp [foldD]

theorem seen_hex (ds : List Nat) (hd : ∀ d ∈ ds, d < 16) : (ds.map hexCh).takeWhile (· != 0) = ds.map hexCh := by
  induction ds with
  | nil => rfl
  | cons d r ih =>
    have : (hexCh d != 0) = true := by have := (hex_ne d (hd d (.head _))).2.2.2.1; simpa using this
    rw [List.map_cons, List.takeWhile_cons, this]
    simp only [if_true]
    rw [ih fun x hx => hd x (.tail _ hx)]

theorem wp_text2 {M : Model} {A : Around} {E : Value → Shared → Prop} {s : Shared} {Q : Value → Shared → Prop} {v : Value} {text : List Nat} {base : Nat} {n : Int}
    (hs : (text.takeWhile (· != 0)).length ≤ 640) (hr : (int_private% "readNumeral") 0 base (text.takeWhile (· != 0)) = (int_private% "Numeral.value") n)
    (ha : ((text.takeWhile (· != 0)).length == text.length) = true) (h : Q (.int n s.toks) { s with toks := s.toks + 1 }) :
    wpAny M A ((int_private% "intFromText") v text base) Q E s := by
  obtain ⟨hp, g, d, tk, os⟩ := s
  repeat (any_goals (first
    | assumption
    | (with_reducible refine wpAny_ite_true (decide_eq_true hs) ?_)
    | (with_reducible refine wpAny_ite_true (decide_eq_true ha) ?_)
    | wp_step))
  all_goals (try rw [hr])
  all_goals (try dsimp only)
  repeat (any_goals (first
    | assumption
    | (with_reducible refine wpAny_ite_true (decide_eq_true hs) ?_)
    | (with_reducible refine wpAny_ite_true (decide_eq_true ha) ?_)
    | wp_step))

structure Hid (p : Prop) : Prop where
  out : p
theorem wpAny_idx {M : Model} {A : Around} {E : Value → Shared → Prop} {s : Shared} {id : String} {b : Int} {t : Tok} {Q : Int → Shared → Prop} (h : Q b s) : wpAny M A (Builtin.Int.intIndex id (.int b t)) Q E s :=
  wpAny_of_eq (a := b) (by kernel_rfl) h
theorem gives_text2 {x : PySem.Str} {u t : Tok} {base : Nat} {n : Int} (hb : base = 2 ∨ base = 16) (hall : x.cps.all (· < 128) = true) (hs : (x.cps.toList.takeWhile (· != 0)).length ≤ 640)
    (hr : (int_private% "readNumeral") 0 base (x.cps.toList.takeWhile (· != 0)) = (int_private% "Numeral.value") n) (ha : ((x.cps.toList.takeWhile (· != 0)).length == x.cps.toList.length) = true) :
    Gives (Builtin.«int.__new__» ⟨[.type "int", .str x u, .int base t], []⟩) (.int n) :=
  .of_wp fun M A E s Q h => by
    have hk := Hid.mk (And.intro hs (And.intro hr (And.intro ha hall)))
    clear hs hr ha hall
    obtain ⟨hp, g, d, tk, os⟩ := s
    have f1 := F.conv_sub_int
    have f2 := F.madeHere_int
    have hb0 : ((((base : Int) != 0) && decide ((base : Int) < 2)) || decide ((base : Int) > 36)) = false := by rcases hb with rfl | rfl <;> rfl
    have hbn : (base : Int).toNat = base := Int.toNat_natCast base
    clear hb
    repeat (any_goals (first
      | assumption
      | ((with_reducible show wpAny _ _ ((int_private% "intFromText") _ _ _) _ _ _); rw [hbn, if_pos hk.out.2.2.2]; refine wp_text2 hk.out.1 hk.out.2.1 hk.out.2.2.1 ?_)
      | (with_reducible refine wpAny_idx ?_)
      | (with_reducible refine wpAny_ite_false hb0 ?_)
      | (with_reducible refine wpAny_ite_true hk.out.2.2.2 ?_)
      | wp_step))
    all_goals first | exact ⟨_, rfl, h⟩ | skip

theorem gives_bytes2 {x : Array UInt8} {u t : Tok} {base : Nat} {n : Int} (hb : base = 2 ∨ base = 16) (hs : ((x.toList.map (·.toNat)).takeWhile (· != 0)).length ≤ 640)
    (hr : (int_private% "readNumeral") 0 base ((x.toList.map (·.toNat)).takeWhile (· != 0)) = (int_private% "Numeral.value") n) (ha : (((x.toList.map (·.toNat)).takeWhile (· != 0)).length == (x.toList.map (·.toNat)).length) = true) :
    Gives (Builtin.«int.__new__» ⟨[.type "int", .bytes x u, .int base t], []⟩) (.int n) :=
  .of_wp fun M A E s Q h => by
    have hk := Hid.mk (And.intro hs (And.intro hr ha))
    clear hs hr ha
    obtain ⟨hp, g, d, tk, os⟩ := s
    have f1 := F.conv_sub_int
    have f2 := F.madeHere_int
    have hb0 : ((((base : Int) != 0) && decide ((base : Int) < 2)) || decide ((base : Int) > 36)) = false := by rcases hb with rfl | rfl <;> rfl
    have hbn : (base : Int).toNat = base := Int.toNat_natCast base
    clear hb
    repeat (any_goals (first
      | assumption
      | ((with_reducible show wpAny _ _ ((int_private% "intFromText") _ _ _) _ _ _); rw [hbn]; refine wp_text2 hk.out.1 hk.out.2.1 hk.out.2.2 ?_)
      | (with_reducible refine wpAny_idx ?_)
      | (with_reducible refine wpAny_ite_false hb0 ?_)
      | wp_step))
    all_goals first | exact ⟨_, rfl, h⟩ | skip
theorem typeCall_int_2 (a b : Value) : checkTypeCall "int" ⟨[a, b], []⟩ = pure () := by kernel_rfl
theorem newCall_int_2 (a b : Value) : checkBuiltinCall "int.__new__" ⟨[.type "int", a, b], []⟩ = pure () := by kernel_rfl
theorem init_args_3 (o a b : Value) : argsOk "object.__init__" ⟨[o, a, b], []⟩ := by unfold argsOk; kernel_rfl

section
variable {prog : Program} {w : World} {A : Around} {E : Value → Shared → Prop} {s : Shared}
theorem call_int_2 {x y : Value} {S : PySem.Spec} {Q : Value → Shared → Prop} (g : Meets (Builtin.«int.__new__» ⟨[.type "int", x, y], []⟩) S) (h : S A.in1 (wants (fun obj s₁ => s₁.TypeIs obj "int" ∧ Q obj s₁) E) s) :
    wpAny (model prog w) A (call (.type "int") [x, y]) Q E s :=
  callType_new F.called_int F.newNe_int (typeCall_int_2 x y) (newCall_int_2 x y) (fun obj => init_args_3 obj x y) F.entry_int_new g h
end

theorem chs_hex (bs : List Bool) : chs bs = (bs.map Bool.toNat).map hexCh := by simp [chs]
theorem hex_all (ds : List Nat) (hd : ∀ d ∈ ds, d < 16) : (S (ds.map hexCh)).cps.all (· < 128) = true := by
  simp only [S, List.all_toArray, List.all_map, List.all_eq_true]
  intro d h
  exact decide_eq_true (hex_ne d (hd d h)).2.2.2.2
noncomputable def hexB (ds : List Nat) : List UInt8 := ds.map fun d => (hexCh d).toUInt8
theorem hexB_nat (ds : List Nat) (hd : ∀ d ∈ ds, d < 16) : (hexB ds).map (·.toNat) = ds.map hexCh := by
  unfold hexB
  rw [List.map_map]
  refine List.map_congr_left fun d h => ?_
  have := (hex_ne d (hd d h)).2.2.2.2
  show hexCh d % 256 = hexCh d
  omega

section
variable {Fx : Fn} {C : Cx Fx} {E : Value → Vals → Led → Prop} {V : Vals} {H : Led} {t u : Tok} {Q : Value → Vals → Led → Prop}
theorem w_int2 {bs : List Bool} (hne : bs ≠ []) (hl : bs.length ≤ 640) (h : ∀ t, Q (.int (valb bs : Nat) t) V H) : W C E (call (.type "int") [.str (S (chs bs)) t, .int 2 u]) V H Q := .mk fun s v => by
  have hd2 : ∀ d ∈ bs.map Bool.toNat, d < 2 := by
    intro d hd
    obtain ⟨b, _, rfl⟩ := List.mem_map.mp hd
    cases b <;> decide
  have hd : ∀ d ∈ bs.map Bool.toNat, d < 16 := fun d h => by have := hd2 d h; omega
  have e : (S (chs bs)).cps.toList = (bs.map Bool.toNat).map hexCh := by rw [← chs_hex]
  refine call_int_2 (gives_text2 (x := S (chs bs)) (base := 2) (n := (valb bs : Nat)) (.inl rfl) (by rw [chs_hex]; exact hex_all _ hd) (by rw [e, seen_hex _ hd, List.length_map, List.length_map]; exact hl) ?_ (by rw [e, seen_hex _ hd]; exact beq_self_eq_true _)).meets ?_
  · rw [e, seen_hex _ hd]
    refine read_hex (.inl rfl) _ hd2 (by simpa using hne) fun h => ?_
    have := hd2 11 (List.mem_of_getElem? h)
    omega
  · exact (show (Made.int (valb bs : Nat)).post _ s from ⟨rfl, V, H, v.toks _, h _⟩)
theorem w_int16 {ds : List Nat} (hd : ∀ d ∈ ds, d < 16) (hne : ds ≠ []) (hp : ds[1]? ≠ some 11) (hl : ds.length ≤ 640) (h : ∀ t, Q (.int (foldD 16 ds 0 : Nat) t) V H) : W C E (call (.type "int") [.bytes (hexB ds).toArray t, .int 16 u]) V H Q := .mk fun s v => by
  have e : ((hexB ds).toArray.toList.map (·.toNat)) = ds.map hexCh := by simpa using hexB_nat ds hd
  refine call_int_2 (gives_bytes2 (x := (hexB ds).toArray) (base := 16) (n := (foldD 16 ds 0 : Nat)) (.inr rfl) (by rw [e, seen_hex _ hd, List.length_map]; exact hl) ?_ (by rw [e, seen_hex _ hd]; exact beq_self_eq_true _)).meets ?_
  · rw [e, seen_hex _ hd]
    exact read_hex (.inr rfl) _ hd hne hp
  · exact (show (Made.int (foldD 16 ds 0 : Nat)).post _ s from ⟨rfl, V, H, v.toks _, h _⟩)
theorem w_bin {k m : Nat} {i : Int} (hi : i = ((2 ^ k + m : Nat) : Int)) (hm : m < 2 ^ k) (hk : k ≤ 100000) (h : ∀ t, Q (.str (S ([48, 98, 49] ++ chs (bitsN k m))) t) V H) : W C E (call (.builtin "bin") [.int i t]) V H Q := .mk fun s v => by
  subst hi
  have e : baseText "0b" 2 ((2 ^ k + m : Nat) : Int) = S ([48, 98, 49] ++ chs (bitsN k m)) := by
    have := base_digs (b := 2) (by decide) (by decide) (c := 1) (k := k) (m := m) (by decide) hm (pre := "0b") (pl := [48, 98]) (cl := [49]) (by decide +kernel) (by decide +kernel)
    rw [Nat.one_mul] at this
    rw [this, chs_bits]; rfl
  refine P.bin_of_int ⟨V, H, v.toks _, by rw [e]; exact h _⟩ (line_le ?_)
  rw [e, S_len]
  simp [chs_len, bitsN_len]
  omega
theorem w_hex {k m : Nat} {i : Int} (hi : i = ((128 * 16 ^ k + m : Nat) : Int)) (hm : m < 16 ^ k) (hk : k ≤ 100000) (h : ∀ t, Q (.str (S ([48, 120, 56, 48] ++ (digs 16 k m).map hexCh)) t) V H) : W C E (call (.builtin "hex") [.int i t]) V H Q := .mk fun s v => by
  subst hi
  have e : baseText "0x" 16 ((128 * 16 ^ k + m : Nat) : Int) = S ([48, 120, 56, 48] ++ (digs 16 k m).map hexCh) := by
    rw [base_digs (b := 16) (by decide) (by decide) (c := 128) (k := k) (m := m) (by decide) hm (pre := "0x") (pl := [48, 120]) (cl := [56, 48]) (by decide +kernel) (by decide +kernel)]; rfl
  refine P.hex_of_int ⟨V, H, v.toks _, by rw [e]; exact h _⟩ (line_le ?_)
  rw [e, S_len]
  simp [digs_len]
  omega
theorem w_chr {n : Nat} {i : Int} (hi : i = (n : Int)) (hn : n < 1000) (h : ∀ t, Q (.str (S [n]) t) V H) : W C E (call (.builtin "chr") [.int i t]) V H Q := .mk fun s v => by
  subst hi
  exact P.chr_of_int (by simp only [Bool.or_eq_false_iff, decide_eq_false_iff_not]; omega) ⟨V, H, v.toks _, by rw [Int.toNat_natCast]; exact h _⟩
end
-- part X6
open Builtin Builtin._codecs in
theorem encodeNarrow_clean (id : String) (c : TextCodec) (errors : Option Str) (self : Value) (l : List Nat) (h : ∀ x ∈ l, c.bad x = false) (hs : (l.flatMap c.bytesOf).length ≤ 16777216) :
    encodeNarrow id c errors self (S l) = pure (l.flatMap c.bytesOf).toArray := by
  unfold encodeNarrow
  simp only [Std.Legacy.Range.forIn_eq_forIn_range', Std.Legacy.Range.size, Nat.sub_zero, Nat.add_sub_cancel, Nat.div_one, S_len]
  cases l with
  | nil => rfl
  | cons x r =>
    have hn : ((x :: r).toArray.extract 0 (r.length + 1)) = (x :: r).toArray := by simp
    have hf : Array.findIdx? c.bad (x :: r).toArray = none := by
      rw [Array.findIdx?_eq_none_iff]; intro y hy; exact h y (by simpa using hy)
    have hx : c.bad x = false := h x (.head _)
    have hfold : ∀ (l : List Nat) (acc : List UInt8), List.foldl (fun acc y => acc ++ (c.bytesOf y).toArray) acc.toArray l = (acc ++ l.flatMap c.bytesOf).toArray := by
      intro l
      induction l with
      | nil => intro acc; simp
      | cons y r ih => intro acc; rw [List.foldl_cons, List.append_toArray, ih]; simp
    have hfo : Array.foldl (fun acc y => acc ++ (c.bytesOf y).toArray) #[] (x :: r).toArray 0 (r.length + 1) = ((x :: r).flatMap c.bytesOf).toArray := by
      have := hfold (x :: r) []
      rw [List.nil_append] at this
      rw [← this]; simp
    have line0 : ¬ ([] : List UInt8).length > sizeLine := by rw [sizeLine_eq]; decide
    have line1 : ¬ ((x :: r).flatMap c.bytesOf).length > sizeLine := by rw [sizeLine_eq]; omega
    have e0 : (x :: r).toArray[0]? = some x := rfl
    simp only [List.length_cons, List.range'_succ, List.forIn_cons, List.size_toArray, if_neg line0, e0, hx, hn, hf, Option.getD_none, Bool.not_false, if_true, hfo, pure_bind, Nat.zero_add]
    cases r with
    | nil => rfl
    | cons y r =>
      have e1 : (x :: y :: r).toArray[(y :: r).length + 1]? = none := by simp
      simp only [List.length_cons] at e1
      simp only [List.length_cons, List.range'_succ, List.forIn_cons, List.size_toArray, if_neg line1, e1, pure_bind, hn, hfo]
-- part Ru2
noncomputable def hexDs (bs : List UInt8) : List Nat := bs.flatMap fun c => [c.toNat / 16, c.toNat % 16]
theorem hexDs_lt (bs : List UInt8) : ∀ d ∈ hexDs bs, d < 16 := by
  intro d hd
  obtain ⟨c, _, h⟩ := List.mem_flatMap.mp hd
  have := c.toNat_lt
  rcases List.mem_cons.mp h with rfl | h
  · omega
  · rw [List.mem_singleton.mp h]; omega
theorem hexDs_len (bs : List UInt8) : (hexDs bs).length = 2 * bs.length := by
  induction bs with
  | nil => rfl
  | cons b r ih => show (_ :: _ :: hexDs r).length = _; simp only [List.length_cons, ih]; omega
theorem hexDigit_hex : ∀ d, d < 16 → Builtin.Bytes.hexDigit d = hexCh d := by decide
theorem gives_hexm (bs : List UInt8) (t : Tok) : Gives (Builtin.«bytes.hex» ⟨[.bytes bs.toArray t], []⟩) (.str (S ((hexDs bs).map hexCh))) := by
  have fold : ∀ (bs : List UInt8) (n : Nat) (acc : List Nat), (bs.zipIdx n).foldl (fun (out : Array Nat) (p : UInt8 × Nat) => (out.push (Builtin.Bytes.hexDigit (p.1.toNat / 16))).push (Builtin.Bytes.hexDigit (p.1.toNat % 16))) acc.toArray = (acc ++ (hexDs bs).map hexCh).toArray := by
    intro bs
    induction bs with
    | nil => intro n acc; simp [hexDs]
    | cons b r ih =>
      intro n acc
      have := b.toNat_lt
      rw [List.zipIdx_cons, List.foldl_cons]
      have e : ((acc.toArray.push (Builtin.Bytes.hexDigit (b.toNat / 16))).push (Builtin.Bytes.hexDigit (b.toNat % 16))) = (acc ++ [hexCh (b.toNat / 16), hexCh (b.toNat % 16)]).toArray := by
        rw [hexDigit_hex _ (by omega), hexDigit_hex _ (by omega)]; simp
      rw [e, ih]
      simp [hexDs]
  have e : Builtin.«bytes.hex» ⟨[.bytes bs.toArray t], []⟩ = retStr ⟨(bs.zipIdx 0).foldl (fun (out : Array Nat) (p : UInt8 × Nat) => (out.push (Builtin.Bytes.hexDigit (p.1.toNat / 16))).push (Builtin.Bytes.hexDigit (p.1.toNat % 16))) #[]⟩ := by
    kernel_rfl
  rw [e, show (#[] : Array Nat) = [].toArray from rfl, fold bs 0 []]
  exact gives_retStr _

theorem flat1 {α β : Type} (f : α → β) (l : List α) : l.flatMap (fun c => [f c]) = l.map f := by
  induction l with
  | nil => rfl
  | cons x r ih => rw [List.flatMap_cons, ih]; rfl
theorem enc_ascii (id : String) (self : Value) (l : List Nat) (h : ∀ x ∈ l, x < 128) (hs : l.length ≤ 16777216) :
    Builtin._codecs.encodeRoad id self (S l) (Str.ofString "ascii") none = mkBytes (l.map (·.toUInt8)).toArray := by
  have e : Builtin._codecs.encodeRoad id self (S l) (Str.ofString "ascii") none = (do mkBytes (← Builtin._codecs.encodeNarrow id Builtin._codecs.asciiCodec none self (S l))) := by
    kernel_rfl
  have fm : l.flatMap Builtin._codecs.asciiCodec.bytesOf = l.map (·.toUInt8) := by
    exact flat1 _ l
  rw [e, encodeNarrow_clean id _ none self l (fun x hx => by show decide (x ≥ 128) = false; exact decide_eq_false (by have := h x hx; omega)) (by rw [fm, List.length_map]; exact hs), fm]
  rfl
theorem gives_encode_ascii (l : List Nat) (h : ∀ x ∈ l, x < 128) (hs : l.length ≤ 16777216) (t u : Tok) : Gives (Builtin.«str.encode» ⟨[.str (S l) t, .str (Str.ofString "ascii") u], []⟩) (.bytes (l.map (·.toUInt8)).toArray) := by
  have e : Builtin.«str.encode» ⟨[.str (S l) t, .str (Str.ofString "ascii") u], []⟩ = (do ret (← Builtin._codecs.encodeRoad "str.encode" (.str (S l) t) (S l) (Str.ofString "ascii") none)) := by kernel_rfl
  rw [e, enc_ascii _ _ l h hs]
  exact .of_eq rfl

section
variable {Fx : Fn} {C : Cx Fx} {E : Value → Vals → Led → Prop} {V : Vals} {H : Led} {t u : Tok}
theorem w_bytes_m {name : Str} {id : String} {b : Array UInt8} {pl : Sem Bool} {Q : Value × List Value → Vals → Led → Prop} (slot : Slot "bytes" name id) (ty : typeOf (.builtin id) = pure (.type "method_descriptor"))
    (h : Q (.builtin id, [.bytes b t]) V H) : W C E (getMethod (.bytes b t) name pl) V H Q := .mk fun s v =>
  getMethod_builtin (PySem.W.typeIs_bytes _ _ _) FB.plainAttrs_bytes slot ty (fun _ e => nomatch e) ⟨V, H, v, h⟩
theorem w_str_m {name : Str} {id : String} {x : Str} {pl : Sem Bool} {Q : Value × List Value → Vals → Led → Prop} (slot : Slot "str" name id) (ty : typeOf (.builtin id) = pure (.type "method_descriptor"))
    (h : Q (.builtin id, [.str x t]) V H) : W C E (getMethod (.str x t) name pl) V H Q := .mk fun s v =>
  getMethod_builtin (typeIs_str _ _ _) F.plainAttrs_str slot ty (fun _ e => nomatch e) ⟨V, H, v, h⟩
variable {Q : Value → Vals → Led → Prop}
theorem w_hexm {bs : List UInt8} (hl : bs.length ≤ 1000000) (h : ∀ t, Q (.str (S ((hexDs bs).map hexCh)) t) V H) : W C E (call (.builtin "bytes.hex") [.bytes bs.toArray t]) V H Q := .mk fun s v =>
  call_gives FB.slot_bytes_hex (PySem.W.typeIs_bytes _ _ _) FB.entry_bytes_hex (FB.args_bytes_hex_1 _) (gives_hexm bs t) ⟨line_le (by rw [S_len, List.length_map, hexDs_len]; omega), V, H, v.toks _, h _⟩
theorem w_enc_ascii {l : List Nat} (hl : ∀ x ∈ l, x < 128) (hs : l.length ≤ 16777216) (h : ∀ t, Q (.bytes (l.map (·.toUInt8)).toArray t) V H) : W C E (call (.builtin "str.encode") [.str (S l) t, .str (Str.ofString "ascii") u]) V H Q := .mk fun s v =>
  call_gives F.slot_str_encode (typeIs_str _ _ _) F.entry_str_encode (F.args_str_encode_2 _ _) (gives_encode_ascii l hl hs t u) ⟨line_le (by simpa using hs), V, H, v.toks _, h _⟩
theorem w_isascii {l : List Nat} (hl : ∀ x ∈ l, x < 128) (h : Q (.bool true) V H) : W C E (call (.builtin "str.isascii") [.str (S l) t]) V H Q := .mk fun s v =>
  call_gives F.slot_str_isascii (typeIs_str _ _ _) F.entry_str_isascii (F.args_str_isascii_1 _) (gives_str_isascii (S l) t) ⟨V, H, v, by
    have : (S l).cps.all (· < 128) = true := by simp only [S, List.all_toArray, List.all_eq_true]; exact fun x hx => decide_eq_true (hl x hx)
    rw [this]; exact h⟩
end
-- part Ru3
theorem rstrip_none {l y : List Nat} (h : ∀ c, l.getLast? = some c → c ∉ y) : Txt.rstripChars (S l) (S y) = S l := by
  have hi : stripHi (S y).cps.contains true (S l) 0 = (S l).length := by
    unfold stripHi
    have e : (List.takeWhile (S y).cps.contains ((S l).cps.toList.drop 0).reverse) = [] := by
      show List.takeWhile _ (List.drop 0 l.toArray.toList).reverse = []
      rw [List.drop_zero]
      show List.takeWhile _ l.reverse = []
      cases hl : l.reverse with
      | nil => rfl
      | cons c r =>
        have : l.getLast? = some c := by rw [List.getLast?_eq_head?_reverse, hl]; rfl
        have hc := h c this
        rw [List.takeWhile_cons]
        have : (S y).cps.contains c = false := by simpa [S] using hc
        rw [this]; rfl
    rw [if_pos rfl, e]; rfl
  unfold Txt.rstripChars Txt.stripBy stripSame
  have lo : stripLo (S y).cps.contains false (S l) = 0 := rfl
  rw [lo, hi]
  simp
noncomputable abbrev listO (vs : List Value) (n : Nat) : Obj := { cls := .type "list", data := .seq vs.toArray n }
theorem LO.listO (vs : List Value) (n : Nat) : LO (listO vs n) vs := ⟨rfl, n, rfl⟩
section
variable {Fx : Fn} {C : Cx Fx} {E : Value → Vals → Led → Prop} {V : Vals} {H : Led} {t u : Tok} {Q : Value → Vals → Led → Prop}
theorem w_rstrip {l y : List Nat} (hl : ∀ c, l.getLast? = some c → c ∉ y) (hs : l.length ≤ 16777216) (h : ∀ t, Q (.str (S l) t) V H) : W C E (call (.builtin "str.rstrip") [.str (S l) t, .str (S y) u]) V H Q := .mk fun s v =>
  SC.rstripChars (fun t' k => ⟨V, H, v.toks _, by rw [rstrip_none hl]; exact h _⟩) (line_le (by rw [S_len]; exact hs))
theorem w_typeof {x : Value} {T : String} (hT : ∀ s : Shared, s.TypeIs x T) (hn : (Value.type T == Value.type "builtin_function_or_method") = false) (h : Q (.type T) V H) : W C E (call (.type "type") [x]) V H Q := .mk fun s v =>
  call_type_of (hT s) hn ⟨V, H, v, h⟩
theorem w_typeof_bytes {b : Array UInt8} (h : Q (.type "bytes") V H) : W C E (call (.type "type") [.bytes b t]) V H Q := w_typeof (fun s => PySem.W.typeIs_bytes s b t) (by decide) h
theorem w_typeof_str {x : Str} (h : Q (.type "str") V H) : W C E (call (.type "type") [.str x t]) V H Q := w_typeof (fun s => typeIs_str s x t) (by decide) h
theorem w_typeof_int {x : Int} (h : Q (.type "int") V H) : W C E (call (.type "type") [.int x t]) V H Q := w_typeof (fun s => typeIs_int s x t) (by decide) h
theorem w_is_type {a b : String} (h : Q (.bool (a == b)) V H) : W C E (compareOp .Is (.type a) (.type b)) V H Q := by
  have e : compareOp .Is (.type a) (.type b) = Pure.pure (.bool (Value.type a == Value.type b)) := rfl
  rw [e]
  have e2 : (Value.type a == Value.type b) = (a == b) := by
    rw [Bool.eq_iff_iff, beq_iff_eq, beq_iff_eq]
    exact ⟨Value.type.inj, fun e => e ▸ rfl⟩
  rw [e2]; exact w_pure h
theorem w_isnot_type {a b : String} (h : Q (.bool (!(a == b))) V H) : W C E (compareOp .IsNot (.type a) (.type b)) V H Q := by
  have e : compareOp .IsNot (.type a) (.type b) = Pure.pure (.bool (!(Value.type a == Value.type b))) := rfl
  rw [e]
  have e2 : (Value.type a == Value.type b) = (a == b) := by
    rw [Bool.eq_iff_iff, beq_iff_eq, beq_iff_eq]
    exact ⟨Value.type.inj, fun e => e ▸ rfl⟩
  rw [e2]; exact w_pure h
theorem w_is_self {a : Addr} (h : Q (.bool true) V H) : W C E (compareOp .Is (.ref a) (.ref a)) V H Q := by
  have e : compareOp .Is (.ref a) (.ref a) = (do return .bool (← isSame (.ref a) (.ref a)) : Sem Value) := rfl
  have e2 : isSame (.ref a) (.ref a) = Pure.pure true := by unfold isSame; simp
  rw [e, e2]; exact w_pure h
theorem w_is_none {v : Value} (h : Q (.bool (v == .none)) V H) : W C E (compareOp .Is v .none) V H Q := .mk fun s vw => is_none_gen ⟨V, H, vw, h⟩
theorem w_isnot_none {v : Value} (h : Q (.bool (!(v == .none))) V H) : W C E (compareOp .IsNot v .none) V H Q := .mk fun s vw => isnot_none_gen ⟨V, H, vw, h⟩
theorem w_len_B {b : List UInt8} (hl : b.length ≤ 1000000) (h : ∀ k, Q (.int b.length k) V H) : W C E (call (.builtin "len") [.bytes b.toArray t]) V H Q := .mk fun s v =>
  PySem.W.len_bytes (by simp; omega) ⟨V, H, v.toks _, by simpa using h _⟩
theorem w_item_B {value slice : Expr} {b : List UInt8} {i : Int} {k : Nat} {x : UInt8} (hl : b.length ≤ 1000000) (hi : i = k) (hx : b[k]? = some x) (h : ∀ t, Q (.int x.toNat t) V H) (hs : isSlice slice = false := by kernel_rfl) :
    W C E (subscriptTail value slice (.bytes b.toArray t) (.int i u)) V H Q := .mk fun s v => by
  subst hi
  have hlt := (List.getElem?_eq_some_iff.mp hx).1
  refine tail_any (PySem.W.typeIs_bytes s _ _) FB.slot_bytes_getitem.lookup (PySem.W.getItem_bytes (by omega) (by omega) (by omega) ⟨V, H, v.toks _, ?_⟩) (subscripted_plain hs)
  rw [List.getD_eq_getElem?_getD, Int.toNat_natCast, hx]
  exact h _
theorem w_add_B {a b : List UInt8} (hs : a.length + b.length ≤ 1000000) (h : ∀ k, Q (.bytes (a ++ b).toArray k) V H) : W C E (binaryOp .Add (.bytes a.toArray t) (.bytes b.toArray u)) V H Q := .mk fun s v =>
  KBy.add_bytes (by simp; omega) fun t' k => ⟨V, H, v.toks _, by simpa using h _⟩
theorem w_eq_B {a b : List UInt8} (h : Q (.bool (a == b)) V H) : W C E (compareOp .Eq (.bytes a.toArray t) (.bytes b.toArray u)) V H Q := .mk fun s v => PySem.W.eq_bytes ⟨V, H, v, h⟩
theorem w_ne_B {a b : List UInt8} (h : Q (.bool (a != b)) V H) : W C E (compareOp .NotEq (.bytes a.toArray t) (.bytes b.toArray u)) V H Q := .mk fun s v => PySem.W.ne_bytes ⟨V, H, v, h⟩
theorem w_bytes_list {l : Addr} {o : Obj} {vs : List Value} {ns : List Int} (hl : Has C H l o) (lo : LO o vs) (hi : IntsAre vs ns) (hr : ∀ n ∈ ns, 0 ≤ n ∧ n < 256) (hz : vs.length ≤ 1000000)
    (h : ∀ t, Q (.bytes (ns.map fun n => n.toNat.toUInt8).toArray t) V H) : W C E (call (.type "bytes") [.ref l]) V H Q := .mk fun s v =>
  call_bytes_ints (lo.isList (hl.at v)) hi hr (line_le (by omega)) C.aok.hnd fun h' t k hk => ⟨V, H, (v.keeps hk).toks _, h _⟩
theorem w_list_m {name : Str} {id : String} {l : Addr} {vs : List Value} {n : Nat} {pl : Sem Bool} {Q : Value × List Value → Vals → Led → Prop} (slot : Slot "list" name id) (ty : typeOf (.builtin id) = pure (.type "method_descriptor"))
    (hl : Has C H l (listO vs n)) (h : Q (.builtin id, [.ref l]) V H) : W C E (getMethod (.ref l) name pl) V H Q := .mk fun s v =>
  getMethod_builtin ⟨_, hl.at v, rfl⟩ F.plainAttrs_list slot ty (fun a e => by cases e; exact ⟨_, hl.at v, rfl⟩) ⟨V, H, v, h⟩
theorem w_append {l : Addr} {vs : List Value} {n : Nat} {x : Value} {H' : Led} (hU : UpdL l (listO vs n) (listO (vs ++ [x]) (n + 1)) H H') (hz : vs.length ≤ 1000000) (h : Q .none V H') : W C E (call (.builtin "list.append") [.ref l, x]) V H Q := .mk fun s v =>
  append_at (v.at hU.mem) (fun h' sb e => ⟨V, H', v.upd hU sb (by rw [e]; simp [listO]), h⟩) (line_le (by simp; omega))
end
-- part Ru4
/-! the contract of a call, as code -/
noncomputable def Back (w : World) (s : Shared) (P : Led) (Q X : Value → Led → Prop) : Result → Shared → Prop := fun r s' => match r with
  | .ok (.ret v) => ∃ P', StepTo (keys P) s s' P' ∧ Q v P'
  | .ok _ => False
  | .error e => ∃ P', StepTo (keys P) s s' P' ∧ X e P'
noncomputable def SpC (w : World) (n : Nat) (f : Value) (args : Args) (P : Led) (pre : Heap → Prop) (Q X : Value → Led → Prop) : Prop :=
  ∀ A s, Pre w n P pre A s → codeAny (model prog w) A (.call f args) (Back w s P Q X) s
theorem SpC.sp {w : World} {n : Nat} {f : Value} {pos : List Value} {kw : List (Str × Value)} {P : Led} {pre : Heap → Prop} {Q X : Value → Led → Prop} (h : SpC w n f ⟨pos, kw⟩ P pre Q X) : Sp w n (call f pos kw) P pre Q X := fun A s p =>
  wpAny_call (codeAny_mono (h A s p) fun r s' z => by rcases r with e | (v | _ | _ | _) <;> first | exact z | exact z.elim)
theorem SpC.def {F : Fn} {w : World} {n : Nat} {P : Led} {pre : Heap → Prop} {Q : Value → Led → Prop} {body : List Stmt} {args : List Value} {kw : List (Str × Value)} {vals : List Value} {V₀ : Vals}
    (hF : FnIs w F) (hbody : F.fd.body = .stmts body) (hgen : F.fd.scope.isGenerator = false)
    (hbind : ∀ s A, Pre w (n + 1) P pre A s → BindsTo s F.fd ⟨args, kw⟩ ((F.names.take vals.length).zip vals)) (hl : vals.length ≤ F.names.length) (hV : vals.map some ++ List.replicate (F.names.length - vals.length) none = V₀)
    (h : ∀ C : Cx F, C.w = w → C.n = n → pre C.h₀ → W C NoE (execs body C.env) V₀ P (fun f _ H' => Q (match f with | .ret v => v | _ => .none) H')) :
    SpC w (n + 1) (.ref F.addr) ⟨args, kw⟩ P pre Q NoX := fun A s p => by
  have nm : ∀ b o, (hideAll s.heap (keys P)).get? b = some o → s.heap.get? b = some o := fun _ _ e => of_hideAll _ e
  have B := p.base.keeps nm
  refine codeAny_call_def (fd := F.fd) (body := body) (binds := (F.names.take vals.length).zip vals) (by have := p.aok.dep; show A.depth < 1000; omega) (B.kin _ _ hF.at_) rfl B.lim (codeRec_of B.kin hF.cd) hbody (hbind s A p)
    (fun x hx e => by have := List.all_eq_true.mp hF.cell x hx; rw [e] at this; cases this) (fun x hx => hF.ok.loc _ (List.mem_of_mem_take (List.of_mem_zip (a := x.1) (b := x.2) hx).1)) (fun h₁ hns hk => ?_) hF.co hgen hF.ok.kind
  have key := (h (Cx.enter F p) rfl rfl p.pre).run { s with heap := h₁, toks := s.toks + ((F.names.take vals.length).zip vals).length } (by
    refine ⟨⟨?_, fun b o e => hk b o (nm b o e), Nat.le_of_eq (hideAll_size _ _)⟩, fun q hq => ⟨hk _ _ (p.led q hq), Nat.ne_of_lt (Heap.lt_size (p.led q hq)), hideAll_none _ (List.mem_map_of_mem hq)⟩, p.nd, .refl _, rfl⟩
    have e : (fun x => ((F.names.take vals.length).zip vals).reverse.lookup x) = slot F.names V₀ := funext fun x => by rw [revlook hF.ok.nd hl, hV]
    rw [e] at hns
    exact hns)
  rw [show (Cx.enter F p).env = callEnv F.fd s.heap.objs.size F.addr from congrFun (congrFun hF.mk_ _) _] at key
  refine wpAny_mono key (fun f s' ⟨V', H', v', q⟩ => ?_) fun e s' ⟨_, _, _, x⟩ => x.elim
  have st := v'.step (s := s) (own := keys P) rfl rfl rfl
  cases f <;> exact ⟨H', st, q⟩

/-! dicts of instances -/
noncomputable abbrev KV := List (Str × Value)
inductive Ent : List DictEntry → KV → Prop
  | nil : Ent [] []
  | cons {h : Int} {x : Str} {t : Tok} {v : Value} {es : List DictEntry} {kv : KV} : Ent es kv → Ent (⟨h, .str x t, v⟩ :: es) ((x, v) :: kv)
structure DO (o : Obj) (kv : KV) : Prop where
  ex : ∃ es n, o = dictOf es n ∧ Ent es kv
noncomputable def kvPut (name : Str) (v : Value) : KV → KV
  | [] => [(name, v)]
  | p :: r => if p.1 == name then (p.1, v) :: r else p :: kvPut name v r
noncomputable def kvGet (name : Str) : KV → Option Value
  | [] => none
  | p :: r => if p.1 == name then some p.2 else kvGet name r
theorem Ent.put {es : List DictEntry} {kv : KV} (h : Ent es kv) (name : Str) (hs : Int) (t : Tok) (v : Value) : Ent (putL name hs (.str name t) v es) (kvPut name v kv) := by
  induction h with
  | nil => exact .cons .nil
  | @cons h x t' v' es kv _ ih =>
    show Ent (if (Value.str x t').isStr name then _ else _) (if x == name then _ else _)
    show Ent (if (x == name) = true then _ else _) (if (x == name) = true then _ else _)
    split
    · exact .cons (by assumption)
    · exact .cons ih
theorem Ent.noRef {es : List DictEntry} {kv : KV} (h : Ent es kv) : es.any (·.refKey) = false := by
  induction h with
  | nil => rfl
  | cons _ ih => rw [List.any_cons, ih]; rfl
theorem Ent.get {es : List DictEntry} {kv : KV} (h : Ent es kv) (name : Str) : getL name es = some (kvGet name kv) := by
  have nr := h.noRef
  have key : (es.find? (·.key.isStr name)).map (·.val) = kvGet name kv := by
    induction h with
    | nil => rfl
    | @cons h x t' v' es kv hh ih =>
      rw [List.find?_cons]
      show Option.map _ (match (x == name) with | true => _ | false => _) = if (x == name) = true then _ else _
      cases (x == name) with
      | true => rfl
      | false => exact ih hh.noRef
  unfold getL
  cases e : es.find? (·.key.isStr name) with
  | some en => rw [e] at key; simp only []; rw [← key]; rfl
  | none => rw [e] at key; simp only [nr]; rw [← key]; rfl
theorem Ent.len {es : List DictEntry} {kv : KV} (h : Ent es kv) : es.length = kv.length := by
  induction h with
  | nil => rfl
  | cons _ ih => rw [List.length_cons, List.length_cons, ih]
theorem UpdL.up {a : Addr} {o o' : Obj} {H H' : Led} (u : UpdL a o o' H H') (nd : (H.map (·.1)).Nodup) : Upd a o o' H H' := by
  induction u with
  | head => exact .head fun p hp e => (List.nodup_cons.mp nd).1 (by show a ∈ _; rw [← e]; exact List.mem_map_of_mem (f := (·.1)) hp)
  | @tail p r r' u ih =>
    have nd' := List.nodup_cons.mp nd
    exact .tail (fun e => nd'.1 (by show p.1 ∈ _; rw [e]; exact List.mem_map_of_mem (f := (·.1)) u.mem)) (ih nd'.2)

theorem AOk.type {n : Nat} {A : Around} (h : AOk (n + 1) A) (C : Addr) (pos : List Value) (kw : List (Str × Value)) : AOk n (A.under (.builtin "type.__call__" ⟨.ref C :: pos, kw⟩)) := by
  have eu : (Code.builtin "type.__call__" ⟨.ref C :: pos, kw⟩).cUnits = 1 := by kernel_rfl
  have ev : (Code.builtin "type.__call__" ⟨.ref C :: pos, kw⟩).envs = [] := by kernel_rfl
  refine ⟨h.hnd, ?_, ?_, ?_, ?_⟩
  · have := h.dep; show A.depth + 1 + n ≤ 900; omega
  · have := h.uni
    show A.units + _ + 8 * n ≤ 9000
    rw [eu]; omega
  · obtain ⟨l, e⟩ := h.fr
    have e2 : (A.under (.builtin "type.__call__" ⟨.ref C :: pos, kw⟩)).frames = pushEnvs (Code.builtin "type.__call__" ⟨.ref C :: pos, kw⟩).envs A.frames := rfl
    exact ⟨l, by rw [e2, ev]; exact e⟩
  · have eg : (Code.builtin "type.__call__" ⟨.ref C :: pos, kw⟩).guards = [] := by kernel_rfl
    have e2 : (A.under (.builtin "type.__call__" ⟨.ref C :: pos, kw⟩)).guards = pushGuards (Code.builtin "type.__call__" ⟨.ref C :: pos, kw⟩).guards A.guards := rfl
    rw [e2, eg, h.gd]; rfl
section
variable {Fx : Fn} {C : Cx Fx} {E : Value → Vals → Led → Prop} {V : Vals} {H : Led}
theorem Vw.instAt {s : Shared} (v : Vw C V H s) {x dx Cc : Addr} {od : Obj} (hx : Has C H x (instObj Cc dx)) (hd : Has C H dx od) : InstAt s.heap x (instObj Cc dx) Cc (some od) :=
  ⟨hx.at v, rfl, rfl, hd.at v⟩
theorem w_getOwn {x dx Cc : Addr} {od : Obj} {kv : KV} {name : Str} {expr : Bool} {val : Value} {Q : Value → Vals → Led → Prop} (hx : Has C H x (instObj Cc dx)) (hd : Has C H dx od) (hD : DO od kv)
    (hg : plainGet (KF C.w) Cc name = true) (hh : hasDictIn (KF C.w) Cc = true) (ha : findIn (KF C.w) (.ref Cc) name = some none) (hv : kvGet name kv = some val) (hi : handedIn val = true) (h : Q val V H) :
    W C E (getAttr (.ref x) name expr) V H Q := .mk fun s v => by
  obtain ⟨es, n, rfl, he⟩ := hD.ex
  exact get_own v.fr C.base.kin (v.instAt hx hd) hg hh ha rfl (by rw [he.get, hv]) hi ⟨V, H, v.toks _, h⟩
theorem w_methInst {x dx Cc f : Addr} {od : Obj} {kv : KV} {name : Str} {pl : Sem Bool} {Q : Value × List Value → Vals → Led → Prop} (hx : Has C H x (instObj Cc dx)) (hd : Has C H dx od) (hD : DO od kv)
    (hg : plainGet (KF C.w) Cc name = true) (hf : findIn (KF C.w) (.ref Cc) name = some (some (.ref f))) (ht : isFn (KF C.w) (.ref f) = true) (hv : kvGet name kv = none) (h : Q (.ref f, [.ref x]) V H) :
    W C E (getMethod (.ref x) name pl) V H Q := .mk fun s v => by
  obtain ⟨es, n, rfl, he⟩ := hD.ex
  exact method_inst v.fr C.base.kin (v.instAt hx hd) hg hf ht (by rw [he.get, hv]) ⟨V, H, v, h⟩
theorem w_setOwn {x dx Cc : Addr} {od : Obj} {kv : KV} {name : Str} {val : Value} {R : Obj → Led} {Q : Unit → Vals → Led → Prop} (hx : Has C H x (instObj Cc dx)) (hD : DO od kv)
    (hs : findIn (KF C.w) (.ref Cc) "__setattr__" = some (some (.builtin "object.__setattr__"))) (hp : plainOver (KF C.w) Cc = true) (ht : takerIn (KF C.w) Cc name = some none) (hh : hasDictIn (KF C.w) Cc = true) (hz : kv.length ≤ 900)
    (hU : ∀ o', UpdL dx od o' H (R o')) (h : ∀ o', DO o' (kvPut name val kv) → Q () V (R o')) : W C E (setAttr (.ref x) name val) V H Q := .mk fun s v => by
  obtain ⟨es, n, rfl, he⟩ := hD.ex
  have hdm := (hU (dictOf es n)).mem
  refine set_dict v.fr C.base.kin v.nw (v.instAt hx (.inl hdm)) rfl hs hp ht hh (by rw [he.get]; rfl) rfl ((hU _).up v.nd) ?_ fun h' F' N' => ⟨V, _, ⟨F', N', by rw [(hU _).keys]; exact v.nd, v.gens, v.os⟩, h _ ⟨_, _, rfl, he.put name _ _ val⟩⟩
  have : (putL name (PyData.keyHash C.w.params name) (Value.str name (s.toks + 1)) val es).length ≤ es.length + 1 := by
    clear he hdm hU h hD hx v
    induction es with
    | nil => exact Nat.le_refl _
    | cons e r ih =>
      show (if _ then _ else _ : List DictEntry).length ≤ _
      split
      · simp
      · simp only [List.length_cons]; omega
  have := he.len
  omega

theorem callSplit {P R : Led} {s : Shared} (v : Vw C V (P ++ R) s) : (∀ a o, Has C R a o → (hideAll s.heap (keys P)).get? a = some o) ∧ (∀ s' P', StepTo (keys P) s s' P' → Vw C V (P' ++ R) s') := by
  have nk : ∀ p ∈ R, p.1 ∉ keys P := fun p hp hm => by
    have := v.nd
    rw [List.map_append, List.nodup_append] at this
    exact this.2.2 _ hm _ (List.mem_map_of_mem hp) rfl
  have nb : ∀ a o, C.h₀.get? a = some o → a ∉ keys P := fun a o e hm => by
    obtain ⟨p, hp, rfl⟩ := List.mem_map.mp hm
    have := v.oldNe (List.mem_append_left R hp)
    rw [this] at e; cases e
  refine ⟨fun a o x => ?_, fun s' P' st => ?_⟩
  · rcases x with x | x
    · exact hideAll_get _ (v.at (List.mem_append_right P x)) (nk _ x)
    · exact hideAll_get _ (v.old x) (nb _ _ x)
  · obtain ⟨oL, es, ep, hL, r⟩ := v.fr.ns
    have nL : C.L ∉ keys P := fun hm => by
      obtain ⟨p, hp, e⟩ := List.mem_map.mp hm
      exact (v.nw p (List.mem_append_left R hp)).2.1 e
    refine ⟨⟨⟨oL, es, ep, st.keep _ _ hL nL, r⟩, fun b o e => st.keep _ _ (v.old e) (nb _ _ e), v.fr.above⟩, fun p hp => ?_, ?_, v.gens.trans st.gens, st.os.trans v.os⟩
    · rcases List.mem_append.mp hp with q | q
      · obtain ⟨g, z⟩ := st.led p q
        refine ⟨g, fun e => ?_, ?_⟩
        · rcases z with z | z
          · exact nL (e ▸ z)
          · rw [e, hL] at z; cases z
        · rcases z with z | z
          · obtain ⟨p', hp', e'⟩ := List.mem_map.mp z
            have e2 : p'.1 = p.1 := e'
            exact e2 ▸ v.oldNe (List.mem_append_left R hp')
          · cases q' : C.h₀.get? p.1 with
            | none => rfl
            | some o => rw [v.old q'] at z; cases z
      · have y := v.nw p (List.mem_append_right P q)
        exact ⟨st.keep _ _ y.1 (nk p q), y.2⟩
    · rw [List.map_append, List.nodup_append]
      refine ⟨st.nd, (List.nodup_append.mp (by have := v.nd; rw [List.map_append] at this; exact this)).2.1, fun a ha b hb e => ?_⟩
      subst e
      obtain ⟨p, hp, rfl⟩ := List.mem_map.mp ha
      obtain ⟨q, hq, e⟩ := List.mem_map.mp hb
      rcases (st.led p hp).2 with z | z
      · exact nk q hq (e ▸ z)
      · have y := v.at (List.mem_append_right P hq)
        have e2 : q.1 = p.1 := e
        rw [e2, z] at y
        cases y

theorem w_Attr {value : Expr} {attr : Str} {pos : Pos} {Q : Value → Vals → Led → Prop} (h : W C E (eval value C.env) V H (fun o V1 H1 => W C E (getAttr o attr true) V1 H1 Q))
    (he : attributeBase value attr C.env (eval value C.env) = eval value C.env := by kernel_rfl) : W C E (eval (.Attribute value attr pos) C.env) V H Q := by
  rw [arm_eval_Attribute, he]
  exact w_bind (h.mono fun o V1 H1 q => w_bind (w_standAt (w_bind (w_holding (q.mono fun r V2 H2 q => .mk fun s v => wpAny_bind (wpAny_letTemporaryGo (wpAny_pure ⟨V2, H2, v, q⟩)))))))
theorem w_AssignAttr {o value : Expr} {attr : Str} {p pos : Pos} {Q : Flow → Vals → Led → Prop}
    (h : W C E (eval value C.env) V H (fun v V1 H1 => W C E (eval o C.env) V1 H1 (fun ov V2 H2 => W C E (setAttr ov attr v) V2 H2 (fun _ V3 H3 => Q .next V3 H3))))
    (hs : swapsWith value (some (.Attribute o attr p)) pos.line C.env = Pure.pure false := by kernel_rfl) (hw : swappedStores [.Attribute o attr p] value C.env = Pure.pure none := by kernel_rfl) :
    W C E (exec (.Assign [.Attribute o attr p] value pos) C.env) V H Q := by
  refine w_Assign1 hs hw (h.mono fun v V1 H1 q => ?_)
  show W C E (assign (.Attribute o attr p) C.env v) V1 H1 _
  rw [arm_assign_Attribute]
  exact w_bind (w_holding (q.mono fun ov V2 H2 q => w_bind (w_standAt (w_bind (w_holding (q.mono fun _ V3 H3 q => w_release q))))))

/-- an object is made: its __init__ by contract -/
theorem w_new {Cc fI : Addr} {pos : List Value} {kw : List (Str × Value)} {m : Nat} {pre : Heap → Prop} {Qs : Addr → Addr → Value → Led → Prop} {Q : Value → Vals → Led → Prop} (hm : makesIn (KF C.w) Cc = true)
    (hi : findIn (KF C.w) (.ref Cc) "__init__" = some (some (.ref fI))) (hf : isFn (KF C.w) (.ref fI) = true) (hn : m + 1 ≤ C.n)
    (hpre : ∀ h : Heap, (∀ a o, Has C H a o → h.get? a = some o) → pre h)
    (hsp : ∀ x dx, SpC C.w m (.ref fI) ⟨.ref x :: pos, kw⟩ [(x, instObj Cc dx), (dx, dictOf [] 0)] pre (Qs x dx) NoX)
    (h : ∀ x dx v P', Qs x dx v P' → v = .none ∧ Q (.ref x) V (P' ++ H)) : W C E (call (.ref Cc) pos kw) V H Q := .mk fun s v => by
  refine call_cls v.fr C.base.kin v.nw hm hi hf fun x dx h' F' N' hlt hxd => ?_
  have nd' : (((x, instObj Cc dx) :: (dx, dictOf [] 0) :: H).map (·.1)).Nodup := by
    refine List.nodup_cons.mpr ⟨fun hmem => ?_, List.nodup_cons.mpr ⟨fun hmem => ?_, v.nd⟩⟩
    · rcases List.mem_cons.mp hmem with e | hmem
      · exact absurd (e : x = dx) (Nat.ne_of_gt hxd)
      · obtain ⟨p, hp, e⟩ := List.mem_map.mp hmem
        exact absurd e (Nat.ne_of_lt (Nat.lt_trans (hlt p hp) hxd))
    · obtain ⟨p, hp, e⟩ := List.mem_map.mp hmem
      exact absurd e (Nat.ne_of_lt (hlt p hp))
  have v' : Vw C V ((x, instObj Cc dx) :: (dx, dictOf [] 0) :: H) { s with heap := h' } := ⟨F', N', nd', v.gens, v.os⟩
  obtain ⟨hid, back⟩ := callSplit v' (P := [(x, instObj Cc dx), (dx, dictOf [] 0)]) (R := H)
  have pr : Pre C.w m [(x, instObj Cc dx), (dx, dictOf [] 0)] pre (C.A.under (.builtin "type.__call__" ⟨.ref Cc :: pos, kw⟩)) { s with heap := h' } :=
    ⟨(AOk.le C.aok hn).type _ _ _, C.base.keeps fun a o e => hid a o (.inr e), fun p hp => v'.at (List.mem_append_left H hp), (v'.nd.sublist (by show List.Sublist [x, dx] (x :: dx :: H.map (·.1)); exact (List.nil_sublist _).cons_cons _ |>.cons_cons _)), hpre _ hid⟩
  refine codeAny_mono (hsp x dx _ _ pr) fun r s' z => ?_
  cases r with
  | error e => obtain ⟨_, _, x⟩ := z; exact x.elim
  | ok f =>
    cases f with
    | ret r =>
      obtain ⟨P', st, q⟩ := z
      obtain ⟨e, q⟩ := h x dx r P' q
      exact ⟨e, V, _, back s' P' st, q⟩
    | next => exact z.elim
    | brk => exact z.elim
    | cont => exact z.elim
end
-- part Ru5
open Builtin Builtin._codecs in
theorem at_ascii (b : Array UInt8) (p : Nat) (h : (b.getD p 0).toNat < 128) : Bytes.utf8At b p = (.char (b.getD p 0).toNat, p + 1) := by
  unfold Bytes.utf8At
  simp only []
  rw [if_pos h]
open Builtin Builtin._codecs in
theorem at_two (b : Array UInt8) (p : Nat) (x : UInt8) (h : 0xC2 ≤ (b.getD p 0).toNat ∧ (b.getD p 0).toNat ≤ 0xDF) (hx : b[p + 1]? = some x) (h2 : 0x80 ≤ x.toNat ∧ x.toNat ≤ 0xBF) :
    Bytes.utf8At b p = (.char ((b.getD p 0).toNat % 32 * 64 + x.toNat % 64), p + 2) := by
  unfold Bytes.utf8At
  generalize (b.getD p 0).toNat = c at h ⊢
  simp only []
  rw [if_neg (by omega), if_pos (by simp; omega)]
  simp only []
  have e : ((List.range 1).map (· + 1)) = [1] := rfl
  rw [e]
  simp only [List.foldl_cons, List.foldl_nil, Except.bind, hx, beq_self_eq_true, if_true]
  rw [if_pos (by simp; omega)]
open Builtin Builtin._codecs in
theorem find_at {b : Array UInt8} {p c n : Nat} (h : Bytes.utf8At b p = (.char c, n)) : utf8Decoder.find true b p = Found.text [c] n := by
  unfold utf8Decoder
  simp only [h]
  rfl
open Builtin Builtin._codecs in
theorem dec1 (id : String) (er : Option Str) (a : UInt8) (ha : a.toNat < 128) : runDecoder id utf8Decoder er true #[a] 0 [] = pure (#[a.toNat], 1) := by
  have f0 : utf8Decoder.find true #[a] 0 = _ := find_at (at_ascii #[a] 0 ha)
  have r1 : List.range' 0 ((#[a].size - 0 + 1 - 1) / 1) = [0] := by kernel_rfl
  have l0 : ¬ 0 > sizeLine := by rw [sizeLine_eq]; decide
  have l1 : ¬ 1 > sizeLine := by rw [sizeLine_eq]; decide
  have l2 : ¬ 2 > sizeLine := by rw [sizeLine_eq]; decide
  unfold runDecoder
  simp only [Std.Legacy.Range.forIn_eq_forIn_range', Std.Legacy.Range.size, r1]
  have s0 : (#[a] : Array UInt8).size = 1 := rfl
  simp only [List.forIn_cons, List.forIn_nil, s0, List.size_toArray, List.length_nil, List.length_cons, if_neg l0, f0, if_neg (show ¬ 0 ≥ 1 by decide), pure_bind]
  rfl
open Builtin Builtin._codecs in
theorem dec2 (id : String) (er : Option Str) (a b : UInt8) (ha : a.toNat < 128) (hb : b.toNat < 128) : runDecoder id utf8Decoder er true #[a, b] 0 [] = pure (#[a.toNat, b.toNat], 2) := by
  have f0 : utf8Decoder.find true #[a, b] 0 = _ := find_at (at_ascii #[a, b] 0 ha)
  have f1 : utf8Decoder.find true #[a, b] 1 = _ := find_at (at_ascii #[a, b] 1 hb)
  have r1 : List.range' 0 ((#[a, b].size - 0 + 1 - 1) / 1) = [0, 1] := by kernel_rfl
  have l0 : ¬ 0 > sizeLine := by rw [sizeLine_eq]; decide
  have l1 : ¬ 1 > sizeLine := by rw [sizeLine_eq]; decide
  have l2 : ¬ 2 > sizeLine := by rw [sizeLine_eq]; decide
  unfold runDecoder
  simp only [Std.Legacy.Range.forIn_eq_forIn_range', Std.Legacy.Range.size, r1]
  have s0 : (#[a, b] : Array UInt8).size = 2 := rfl
  simp only [List.forIn_cons, List.forIn_nil, s0, List.size_toArray, List.length_nil, List.length_cons, if_neg l0, f0, if_neg (show ¬ 0 ≥ 2 by decide), pure_bind]
  have s1 : (#[] ++ #[(#[a, b].getD 0 0).toNat]).size = 1 := rfl
  simp only [s1, if_neg l1, if_neg (show ¬ 0 + 1 ≥ 2 by decide), f1, Nat.zero_add, pure_bind]
  rfl
open Builtin Builtin._codecs in
theorem dec3 (id : String) (er : Option Str) (a c d : UInt8) (ha : a.toNat < 128) (hc : 0xC2 ≤ c.toNat ∧ c.toNat ≤ 0xDF) (hd : 0x80 ≤ d.toNat ∧ d.toNat ≤ 0xBF) : runDecoder id utf8Decoder er true #[a, c, d] 0 [] = pure (#[a.toNat, c.toNat % 32 * 64 + d.toNat % 64], 3) := by
  have f0 : utf8Decoder.find true #[a, c, d] 0 = _ := find_at (at_ascii #[a, c, d] 0 ha)
  have f1 : utf8Decoder.find true #[a, c, d] 1 = _ := find_at (at_two #[a, c, d] 1 d hc rfl hd)
  have r1 : List.range' 0 ((#[a, c, d].size - 0 + 1 - 1) / 1) = [0, 1, 2] := by kernel_rfl
  have l0 : ¬ 0 > sizeLine := by rw [sizeLine_eq]; decide
  have l1 : ¬ 1 > sizeLine := by rw [sizeLine_eq]; decide
  have l2 : ¬ 2 > sizeLine := by rw [sizeLine_eq]; decide
  unfold runDecoder
  simp only [Std.Legacy.Range.forIn_eq_forIn_range', Std.Legacy.Range.size, r1]
  have s0 : (#[a, c, d] : Array UInt8).size = 3 := rfl
  simp only [List.forIn_cons, List.forIn_nil, s0, List.size_toArray, List.length_nil, List.length_cons, if_neg l0, f0, if_neg (show ¬ 0 ≥ 3 by decide), pure_bind]
  have s1 : (#[] ++ #[(#[a, c, d].getD 0 0).toNat]).size = 1 := rfl
  simp only [s1, if_neg l1, if_neg (show ¬ 0 + 1 ≥ 3 by decide), f1, Nat.zero_add, pure_bind]
  have s2 : (#[] ++ #[(#[a, c, d].getD 0 0).toNat] ++ #[(#[a, c, d].getD 1 0).toNat % 32 * 64 + d.toNat % 64]).size = 2 := rfl
  simp only [s2, if_neg l2, if_pos (show 1 + 2 ≥ 3 by decide), pure_bind]
  rfl

open Builtin Builtin._codecs in
theorem road_eq2 {id : String} {b : Array UInt8} : _codecs.decodeRoad id b (PySem.Str.ofString "utf-8") (some (PySem.Str.ofString "strict")) [] = (_codecs.runDecoder id _codecs.utf8Decoder (some (PySem.Str.ofString "strict")) true b 0 [] >>= fun r => mkStr ⟨r.1⟩) := by kernel_rfl
open Builtin Builtin._codecs in
theorem meets_text2 {b : Array UInt8} {t t1 t2 t3 : Tok} {x d : PySem.Str} {n : Nat} (hd : ∀ id, _codecs.runDecoder id _codecs.utf8Decoder (some (PySem.Str.ofString "strict")) true b 0 [] = pure (x.cps, n)) :
    Meets («_codecs.decode.text» ⟨[.bytes b t, .str (PySem.Str.ofString "utf-8") t1, .str (PySem.Str.ofString "strict") t3, .str d t2], []⟩) (fun _ R s => x.length ≤ sizeLine ∧ R (.ok (.ret (.str x s.toks))) { s with toks := s.toks + 1 }) := by
  refine .of_wp fun prog w A R s hS => ?_
  obtain ⟨hsz, h⟩ := hS
  show wpAny _ _ (Bytes.bytesLike _ (.bytes b t) >>= fun r => _) _ _ s
  refine wpAny_bind (wpAny_of_eq KBd.like_eq ?_)
  refine wpAny_bind (wpAny_of_eq KBd.held_eq ?_)
  show wpAny _ _ (_codecs.decodeRoad _ b (PySem.Str.ofString "utf-8") (some (PySem.Str.ofString "strict")) [] >>= fun v => _) _ _ s
  rw [road_eq2, hd]
  refine wpAny_bind (wpAny_bind (wpAny_pure ?_))
  exact wpAny_mkStr (wpAny_pure ⟨_, rfl, h⟩) hsz
open Builtin Builtin._codecs in
theorem entry_dec3 {c : UInt8} {cs : List UInt8} {t t1 t2 : Tok} : «bytes.decode» ⟨[.bytes (c :: cs).toArray t, .str (PySem.Str.ofString "utf-8") t1, .str (PySem.Str.ofString "strict") t2], []⟩ = (mkStr (PySem.Str.ofString "utf-8") >>= fun _ => mkStr (PySem.Str.ofString "utf-8") >>= fun e => mkStr (PySem.Str.ofString "strict") >>= fun er => mkStr (PySem.Str.ofString "bytes.decode") >>= fun d =>
    call (.builtin "_codecs.decode.text") [.bytes (c :: cs).toArray t, e, er, d] >>= fun v => ret v) := by kernel_rfl
theorem args_dec3 (a b c : Value) : argsOk "bytes.decode" ⟨[a, b, c], []⟩ := by unfold argsOk; kernel_rfl
open Builtin Builtin._codecs in
theorem meets_dec3 {c : UInt8} {cs : List UInt8} {t t1 t2 : Tok} {x : PySem.Str} {n : Nat} (hd : ∀ id, _codecs.runDecoder id _codecs.utf8Decoder (some (PySem.Str.ofString "strict")) true (c :: cs).toArray 0 [] = pure (x.cps, n)) :
    Meets («bytes.decode» ⟨[.bytes (c :: cs).toArray t, .str (PySem.Str.ofString "utf-8") t1, .str (PySem.Str.ofString "strict") t2], []⟩) (fun _ R s => x.length ≤ sizeLine ∧ ∀ t' k, R (.ok (.ret (.str x t'))) { s with toks := k }) := by
  refine .of_wp fun prog w A R s hS => ?_
  obtain ⟨hsz, h⟩ := hS
  rw [entry_dec3]
  refine wpAny_bind (wpAny_mkStr ?_ (by decide))
  refine wpAny_bind (wpAny_mkStr ?_ (by decide))
  refine wpAny_bind (wpAny_mkStr ?_ (by decide))
  refine wpAny_bind (wpAny_mkStr ?_ (by decide))
  exact wpAny_bind (call_function_meets KBd.kind_text KBd.plain_text KBd.entry_text (KBd.args_text _ _ _ _) (meets_text2 hd) ⟨hsz, wpAny_pure ⟨_, rfl, h _ _⟩⟩)

theorem noI_bytes_add : typeLookup (.type "bytes") (dunderI "add") = pure none := by rw [typeLookup_type, builtinLookup_eq_fast]; kernel_rfl
theorem enc_utf8 (id : String) (self : Value) (l : List Nat) (h : ∀ x ∈ l, Str.isSurrogate x = false) (hs : (l.flatMap Str.utf8Of).length ≤ 16777216) :
    Builtin._codecs.encodeRoad id self (S l) (Str.ofString "utf-8") none = mkBytes (l.flatMap Str.utf8Of).toArray := by
  have e : Builtin._codecs.encodeRoad id self (S l) (Str.ofString "utf-8") none = (do mkBytes (← Builtin._codecs.encodeNarrow id Builtin._codecs.utf8Codec none self (S l))) := by
    kernel_rfl
  rw [e, encodeNarrow_clean id _ none self l h hs]
  rfl
theorem gives_encode_utf8 (l : List Nat) (h : ∀ x ∈ l, Str.isSurrogate x = false) (hs : (l.flatMap Str.utf8Of).length ≤ 16777216) (t u : Tok) : Gives (Builtin.«str.encode» ⟨[.str (S l) t, .str (Str.ofString "utf-8") u], []⟩) (.bytes (l.flatMap Str.utf8Of).toArray) := by
  have e : Builtin.«str.encode» ⟨[.str (S l) t, .str (Str.ofString "utf-8") u], []⟩ = (do ret (← Builtin._codecs.encodeRoad "str.encode" (.str (S l) t) (S l) (Str.ofString "utf-8") none)) := by kernel_rfl
  rw [e, enc_utf8 _ _ l h hs]
  exact .of_eq rfl
section
variable {Fx : Fn} {C : Cx Fx} {E : Value → Vals → Led → Prop} {V : Vals} {H : Led} {t u u2 : Tok} {Q : Value → Vals → Led → Prop}
theorem w_dec3 {bs : List UInt8} {l : List Nat} {n : Nat} (hne : bs ≠ []) (hd : ∀ id, Builtin._codecs.runDecoder id Builtin._codecs.utf8Decoder (some (PySem.Str.ofString "strict")) true bs.toArray 0 [] = pure (l.toArray, n)) (hl : l.length ≤ 1000000)
    (h : ∀ t, Q (.str (S l) t) V H) : W C E (call (.builtin "bytes.decode") [.bytes bs.toArray t, .str (Str.ofString "utf-8") u, .str (Str.ofString "strict") u2]) V H Q := .mk fun s v => by
  cases bs with
  | nil => exact absurd rfl hne
  | cons c cs => exact call_meets FB.slot_bytes_decode (PySem.W.typeIs_bytes _ _ _) FB.entry_bytes_decode (args_dec3 _ _ _) (meets_dec3 (x := S l) hd) ⟨line_le (by rw [S_len]; omega), fun t' k => ⟨V, H, v.toks _, h _⟩⟩
theorem w_enc_utf8 {l : List Nat} (hl : ∀ x ∈ l, Str.isSurrogate x = false) (hs : (l.flatMap Str.utf8Of).length ≤ 1000000) (h : ∀ t, Q (.bytes (l.flatMap Str.utf8Of).toArray t) V H) : W C E (call (.builtin "str.encode") [.str (S l) t, .str (Str.ofString "utf-8") u]) V H Q := .mk fun s v =>
  call_gives F.slot_str_encode (typeIs_str _ _ _) F.entry_str_encode (F.args_str_encode_2 _ _) (gives_encode_utf8 l hl (by omega) t u) ⟨line_le (by simp; simpa using Nat.le_trans hs (by decide)), V, H, v.toks _, h _⟩
theorem w_iadd_B {a b : List UInt8} (hs : a.length + b.length ≤ 1000000) (h : ∀ k, Q (.bytes (a ++ b).toArray k) V H) : W C E (inplaceOp .Add (.bytes a.toArray t) (.bytes b.toArray u)) V H Q := .mk fun s v => by
  have hsz : a.toArray.size + b.toArray.size ≤ 16777216 := by simp; omega
  refine inplaceOp_concat (PySem.W.typeIs_bytes s _ t) (PySem.W.typeIs_bytes s _ u) noI_bytes_add KBy.noFill_bytes_add KBy.seq_bytes_add (call_gives FB.slot_bytes_add (PySem.W.typeIs_bytes s _ t) FB.entry_bytes_add (FB.args_bytes_add_2 _ _) (KBy.gives_bytes_add (KBy.tooLong_not hsz)) ?_)
  by_cases hb : a.toArray.isEmpty = true
  · rw [if_pos hb]
    have e : a = [] := by simpa using hb
    have h' := h u
    rw [e, List.nil_append] at h'
    exact ⟨V, H, v, h'⟩
  · rw [if_neg hb]
    by_cases hc : b.toArray.isEmpty = true
    · rw [if_pos hc]
      have e : b = [] := by simpa using hc
      have h' := h t
      rw [e, List.append_nil] at h'
      exact ⟨V, H, v, h'⟩
    · rw [if_neg hc]
      exact ⟨line_le (by rw [Array.size_append]; exact hsz), V, H, v.toks _, by simpa using h _⟩
theorem w_int_int {n : Int} (h : Q (.int n t) V H) : W C E (call (.type "int") [.int n t]) V H Q := .mk fun s v => call_int_int ⟨V, H, v, h⟩
theorem w_int_bool {b : Bool} (h : ∀ t, Q (.int (if b then 1 else 0) t) V H) : W C E (call (.type "int") [.bool b]) V H Q := .mk fun s v => call_int_bool ⟨V, H, v.toks _, h _⟩
theorem w_bool_int {n : Int} (h : Q (.bool (n != 0)) V H) : W C E (call (.type "bool") [.int n t]) V H Q := .mk fun s v => call_bool_int ⟨V, H, v, h⟩
end
-- part Ru6
/-- the first statement, at its own code (for super()) -/
structure WA {Fx : Fn} (C : Cx Fx) (body : List Stmt) {α : Type} (E : Value → Vals → Led → Prop) (t : Sem α) (V : Vals) (H : Led) (Q : α → Vals → Led → Prop) : Prop where
  run : ∀ s, Vw C V H s → _root_.PySem.wpAt (model prog C.w) C.A (.func body C.env) t (fun a s' => ∃ V' H', Vw C V' H' s' ∧ Q a V' H') (fun e s' => ∃ V' H', Vw C V' H' s' ∧ E e V' H') s

section
variable {Fx : Fn} {C : Cx Fx} {body : List Stmt} {E : Value → Vals → Led → Prop} {V : Vals} {H : Led} {α β : Type}
theorem wa_of {t : Sem α} {Q : α → Vals → Led → Prop} (h : W C E t V H Q) : WA C body E t V H Q := ⟨fun s v => _root_.PySem.wpAt_of_wpAny (h.run s v)⟩
theorem wa_bind {m : Sem α} {f : α → Sem β} {Q : β → Vals → Led → Prop} (h : WA C body E m V H (fun a V' H' => WA C body E (f a) V' H' Q)) : WA C body E (m >>= f) V H Q :=
  ⟨fun s v => _root_.PySem.wpAt_bind (_root_.PySem.wpAt_mono (h.run s v) (fun _ s' ⟨_, _, v', q⟩ => q.run s' v') fun _ _ x => x)⟩
theorem WA.mono {t : Sem α} {Q Q' : α → Vals → Led → Prop} (h : WA C body E t V H Q) (k : ∀ a V' H', Q a V' H' → Q' a V' H') : WA C body E t V H Q' :=
  ⟨fun s v => _root_.PySem.wpAt_mono (h.run s v) (fun _ _ ⟨V', H', v', q⟩ => ⟨V', H', v', k _ _ _ q⟩) fun _ _ x => x⟩
theorem wa_holding {vs : List Value} {t : Sem α} {Q : α → Vals → Led → Prop} (h : WA C body E t V H Q) : WA C body E (holding vs t) V H Q := ⟨fun s v => ks_wpAt_holding (h.run s v)⟩
theorem wa_cons {st : Stmt} {rest : List Stmt} {Q : Flow → Vals → Led → Prop} (h : WA C body E (exec st C.env) V H (Seq C E rest Q)) : WA C body E (execs (st :: rest) C.env) V H Q :=
  ⟨fun s v => ks_wpAt_execs_cons (_root_.PySem.wpAt_mono (h.run s v) (fun f s' ⟨V', H', v', q⟩ => by
    cases f with
    | next => exact _root_.PySem.wpAt_of_wpAny (W.run q s' v')
    | brk => exact ⟨V', H', v', q⟩
    | cont => exact ⟨V', H', v', q⟩
    | ret x => exact ⟨V', H', v', q⟩) fun _ _ x => x)⟩
theorem wa_Expr {e : Expr} {pos : Pos} {Q : Flow → Vals → Led → Prop} (h : WA C body E (eval e C.env) V H (fun _ V' H' => Q .next V' H')) (hi : interactive C.env = false) (hs : swapsWith e none pos.line C.env = Pure.pure false) : WA C body E (exec (.Expr e pos) C.env) V H Q := by
  rw [exec_Expr C.env e pos hi hs]
  exact wa_bind (wa_of (w_standAt (wa_bind (h.mono fun _ _ _ q => wa_of (w_dropV q)))))
theorem wa_Return {e : Expr} {pos : Pos} {Q : Flow → Vals → Led → Prop} (h : WA C body E (eval e C.env) V H (fun v V' H' => Q (.ret v) V' H')) : WA C body E (exec (.Return (some e) pos) C.env) V H Q :=
  ⟨fun s v => ks_wpAt_Return_some (h.run s v)⟩
theorem wa_MethodCall {o : Expr} {name : Str} {apos pos : Pos} {args : List Expr} {kws : List Keyword} {Q : Value → Vals → Led → Prop}
    (h : WA C body E (attributeBase o name C.env (eval o C.env)) V H (fun ov V1 H1 => W C E (getMethod ov name (do return (← importBound o C.env).getD true)) V1 H1 (fun fx V2 H2 => W C E (callWith pos fx.1 fx.2 (backTo pos (starEach args C.env)) (backToKw pos (keywordEach kws C.env))) V2 H2 Q)))
    (he : eval (.Call (.Attribute o name apos) args kws pos) C.env = (do
      let ov ← attributeBase o name C.env (eval o C.env)
      standAt apos.atName
      let (f, first) ← holding [ov] (getMethod ov name (do return (← importBound o C.env).getD true))
      callWith pos f first (backTo pos (starEach args C.env)) (backToKw pos (keywordEach kws C.env))) := by kernel_rfl) :
    WA C body E (eval (.Call (.Attribute o name apos) args kws pos) C.env) V H Q := by
  rw [he]
  exact wa_bind (h.mono fun _ _ _ q => wa_of (w_bind (w_standAt (w_bind (w_holding (q.mono fun fx V2 H2 q => q))))))

theorem wa_super {p0 p1 : Pos} {attr : Str} {whole : Sem Value} {ar : Arg} {vs : Array Value} {file : Str} {tf : Tok} {ccl cl : Value} {cdd cld : Option Addr} {ccs csl : Array (Option Value)} {cda cc D x dx Cc : Addr} {od : Obj} {Q : Value → Vals → Led → Prop}
    (hF : FnIs C.w Fx) (hx : Has C H x (instObj Cc dx)) (hd : Has C H dx od) (hp : (Fx.fd.params.posonlyargs ++ Fx.fd.params.args).head? = some ar) (hv : Loc ar.arg (.ref x) Fx.names V)
    (hcd : C.env.code = .ref cda) (hcode : (KF C.w).lookup cda = some ⟨ccl, cdd, .fields vs, ccs⟩) (hvs : vs[2]? = some (.str file tf)) (hfile : ((prog.main.file : Str) == file) = true)
    (hce : C.env.cells.lookup ("__class__" : Str) = some cc) (hcell : (KF C.w).lookup cc = some ⟨cl, cld, .cell (some (.ref D)), csl⟩) (hD : (clsIn (KF C.w) D).isSome = true) (hsub : mroIn (KF C.w) Cc (.ref D) = some true) (hsuper : nsIn (KF C.w) mainGlobals "super" = some none)
    (hat : (attr == ("__class__" : Str)) = false) (hks : Fx.fd.scope.names.lookup ("super" : Str) = some .globalImplicit) (hkc : Fx.fd.scope.names.lookup ("__class__" : Str) = some .free)
    (htop : (prog.main.scope.names.lookup ("super" : Str)).isSome = false) (hboot : bootBuiltins "super" = some (.type "super"))
    (h : ∀ so, Q (.ref so) V ((so, ks_superObj D x Cc) :: H)) : WA C body E (attributeBase (.Call (.Name "super" p0) [] [] p1) attr C.env whole) V H Q := ⟨fun s v => by
  have en : C.env = callEnv Fx.fd C.L Fx.addr := congrFun (congrFun hF.mk_ _) _
  rw [en] at hcd hce ⊢
  have X : (KF C.w).In s.heap := v.base.kin
  obtain ⟨mg, hg⟩ := v.base.g
  obtain ⟨mb, hbn, hbe⟩ := v.base.bi
  have I := v.instAt hx hd
  have hF' := X _ _ hF.at_
  obtain ⟨i, ha, hb⟩ := hv.at
  have hsl : slot Fx.names V ar.arg = some (.ref x) := slot_get hF.ok.nd ha hb
  have v0 := v
  obtain ⟨hh, g, d, t, os⟩ := s
  obtain ⟨cdD, hD⟩ := Option.isSome_iff_exists.mp hD
  obtain ⟨oD, hD1, hD2⟩ : ∃ oD, hh.get? D = some oD ∧ oD.data = .cls cdD := by
    unfold clsIn at hD
    split at hD
    · rename_i c d cd' sl ho
      cases hD
      exact ⟨_, X _ _ ho, rfl⟩
    · cases hD
  refine ks_wpAt_super_base (env := callEnv Fx.fd C.L Fx.addr) hks hkc hat rfl hF' rfl hp hcd (X _ _ hcode) rfl hvs hfile htop ?_
  refine ks_loadName_global hF.ok.kind hks (loadGlobal_builtin (env := callEnv Fx.fd C.L Fx.addr) (by show hh.Ns Fx.fd.globals mg; rw [hF.ok.gl]; exact hg) (mg_none_of X hg hsuper) (by show hh.Ns Fx.fd.builtins mb; rw [hF.ok.bn]; exact hbn) ((hbe _ (by decide +kernel)).trans hboot) ⟨rfl, ?_⟩)
  refine wpAny_loadName_free hF.ok.kind hkc hce ⟨_, X _ _ hcell, rfl⟩ ?_
  refine wpAny_loadName_local hF.ok.kind (hF.ok.loc _ (List.mem_of_getElem? ha)) v0.fr.ns hsl ?_
  refine ks_wpAny_isType_cls hD1 hD2 ⟨rfl, ?_⟩
  refine ks_wpAny_call_super hD1 hD2 I.at_ I.cls (fun c e => by cases e) (looks_mroIn X hsub) (fun h' e k => ?_)
  obtain ⟨F', N', l'⟩ := ks_newsPush (s := ⟨hh, g, d, t, os⟩) v0.fr v0.nw rfl e k
  exact ⟨V, _, ⟨F', N', List.nodup_cons.mpr ⟨fun hm => by obtain ⟨p, hp, e⟩ := List.mem_map.mp hm; exact Nat.lt_irrefl _ (e ▸ l' p hp), v0.nd⟩, v0.gens, v0.os⟩, h _⟩⟩

theorem w_superM {so D x dx Cc f2 : Addr} {od : Obj} {name : Str} {pl : Sem Bool} {Q : Value × List Value → Vals → Led → Prop} (hso : (so, ks_superObj D x Cc) ∈ H) (hx : Has C H x (instObj Cc dx)) (hd : Has C H dx od)
    (ho : nsIn (KF C.w) cStatics "thirdparty.any" = some none) (hm : ks_superIn (KF C.w) Cc D name = some (some (.ref f2))) (ht : typeIn (KF C.w) (.ref f2) = some (.type "function")) (hn : (name == ("__class__" : Str)) = false)
    (h : ∀ q, Q (.ref q, []) V ((q, methodObj (.ref f2) (.ref x)) :: H)) : W C E (getMethod (.ref so) name pl) V H Q := .mk fun s v =>
  ks_method v.fr C.base.kin v.nw hso (v.instAt hx hd) ho hm ht hn fun q h' F' N' l => ⟨V, _, ⟨F', N', List.nodup_cons.mpr ⟨fun hm => by obtain ⟨p, hp, e⟩ := List.mem_map.mp hm; exact Nat.lt_irrefl _ (e ▸ l p hp), v.nd⟩, v.gens, v.os⟩, h _⟩

theorem kept_bound {q f : Addr} {self : Value} (hq : (q, methodObj (.ref f) self) ∈ H) (hf : fnIn (KF C.w) f = true) : Kept C H (.ref q) := fun V s v => keeps_M hf _ ⟨v.at hq, v.base.kin⟩

/-- a bound method, called by the contract of its def -/
theorem w_callM {q f : Addr} {self : Value} {pos : List Value} {kw : List (Str × Value)} {m : Nat} {P R : Led} {pre : Heap → Prop} {Qs Xs : Value → Led → Prop} {Q : Value → Vals → Led → Prop} (hq : (q, methodObj (.ref f) self) ∈ P ++ R)
    (hsp : SpC C.w m (.ref f) ⟨self :: pos, kw⟩ P pre Qs Xs) (hm : m ≤ C.n) (hH : SubP (P ++ R) H) (hpre : ∀ h : Heap, (∀ a o, Has C R a o → h.get? a = some o) → pre h) (h : ∀ v P', Qs v P' → Q v V (P' ++ R))
    (hx : ∀ e P', Xs e P' → E e V (P' ++ R)) : W C E (call (.ref q) pos kw) V H Q := w_drop' hH <| .mk fun s v => by
  obtain ⟨hid, back⟩ := callSplit v
  have pr : Pre C.w m P pre C.A s := ⟨C.aok.le hm, C.base.keeps fun a o e => hid a o (.inr e), fun p hp => v.at (List.mem_append_left R hp), (List.nodup_append.mp (by have := v.nd; rw [List.map_append] at this; exact this)).1, hpre _ hid⟩
  refine wpAny_call (method_call (v.at hq) (codeAny_mono (hsp C.A s pr) fun r s' z => ?_))
  cases r with
  | error e => obtain ⟨P', st, x⟩ := z; exact ⟨V, _, back s' P' st, hx e P' x⟩
  | ok f =>
    cases f with
    | ret r => obtain ⟨P', st, q⟩ := z; exact ⟨V, _, back s' P' st, h r P' q⟩
    | next => exact z.elim
    | brk => exact z.elim
    | cont => exact z.elim
end

section
variable {Fx : Fn} {C : Cx Fx} {body : List Stmt} {E : Value → Vals → Led → Prop} {V : Vals} {H : Led}
theorem wa_callWith1 {pos : Pos} {f : Value} {x : Sem Value} {Q : Value → Vals → Led → Prop} (h : WA C body E x V H (fun v V1 H1 => Kept C H1 f ∧ W C E (call f [v]) V1 H1 Q)) : WA C body E (callWith pos f [] [(false, x)] []) V H Q := by
  have he : WA C body E (evalArgs f true [(false, x)] []) V H (fun a V1 H1 => Kept C H1 f ∧ W C E (call f ([] ++ a.pos) a.kw) V1 H1 Q) := by
    unfold evalArgs
    show WA C body E (spliced [(false, x)] >>= _) V H _
    rw [spliced]
    refine wa_bind (wa_bind (h.mono fun v V1 H1 q => wa_of ?_))
    simp only [Bool.false_eq_true, if_false]
    refine w_bind (w_pure (w_bind (w_holding (w_spliced_nil (w_pure (wa_of ?_))))))
    exact w_holding (w_bind (w_pure (w_bind (w_pure (w_pure q)))))
  unfold callWith
  refine wa_bind (wa_holding (he.mono fun a V1 H1 q => wa_of (w_bind (w_standAt ?_))))
  refine .mk fun s v => ?_
  obtain ⟨k, hk', L⟩ := q.1 V1 s v
  refine wpAny_bind (L.here ?_)
  have tail : ∀ {t : Sem Value}, W C E t V1 H1 Q → wpAny (model prog C.w) C.A (t >>= fun r => PySem.holding [r] point >>= fun _ => Pure.pure r) (fun a s' => ∃ V' H', Vw C V' H' s' ∧ Q a V' H') (fun e s' => ∃ V' H', Vw C V' H' s' ∧ E e V' H') s :=
    fun ht => (w_bind (ht.mono fun r _ _ q => w_bind (f := fun _ => Pure.pure r) (w_holding (w_point (w_pure q)))) : W C E (_ >>= fun r => PySem.holding [r] point >>= fun _ => Pure.pure r) V1 H1 Q).run s v
  have marked (mk : Value) : W C E (callMarked mk f ([] ++ a.pos) a.kw) V1 H1 Q := by unfold callMarked; exact w_keep q.2
  rcases hk' with rfl | rfl | rfl <;> dsimp only <;> first | exact tail q.2 | exact tail (w_operate q.2) | (split <;> first | exact tail q.2 | exact tail (w_operate q.2) | exact tail (marked _))
theorem wa_Call1 {func e : Expr} {pos : Pos} {Q : Value → Vals → Led → Prop} (h : W C E (eval func C.env) V H (fun f V1 H1 => WA C body E (eval e C.env) V1 H1 (fun v V2 H2 => Kept C H2 f ∧ W C E (call f [v]) V2 H2 Q)))
    (he : eval (.Call func [e] [] pos) C.env = (do callWith pos (← eval func C.env) [] [(false, eval e C.env)] []) := by kernel_rfl) : WA C body E (eval (.Call func [e] [] pos) C.env) V H Q := by
  rw [he]
  exact wa_bind (wa_of (h.mono fun f V1 H1 q => wa_callWith1 q))
end

theorem SpC.defA {F : Fn} {w : World} {n : Nat} {P : Led} {pre : Heap → Prop} {Q : Value → Led → Prop} {body : List Stmt} {args : List Value} {kw : List (Str × Value)} {vals : List Value} {V₀ : Vals}
    (hF : FnIs w F) (hbody : F.fd.body = .stmts body) (hgen : F.fd.scope.isGenerator = false)
    (hbind : ∀ s A, Pre w (n + 1) P pre A s → BindsTo s F.fd ⟨args, kw⟩ ((F.names.take vals.length).zip vals)) (hl : vals.length ≤ F.names.length) (hV : vals.map some ++ List.replicate (F.names.length - vals.length) none = V₀)
    (h : ∀ C : Cx F, C.w = w → C.n = n → pre C.h₀ → WA C body NoE (execs body C.env) V₀ P (fun f _ H' => ∃ H'', SubP H'' H' ∧ Q (match f with | .ret v => v | _ => .none) H'')) :
    SpC w (n + 1) (.ref F.addr) ⟨args, kw⟩ P pre Q NoX := fun A s p => by
  have nm : ∀ b o, (hideAll s.heap (keys P)).get? b = some o → s.heap.get? b = some o := fun _ _ e => of_hideAll _ e
  have B := p.base.keeps nm
  refine ks_codeAny_call_defAt (fd := F.fd) (body := body) (binds := (F.names.take vals.length).zip vals) (by have := p.aok.dep; show A.depth < 1000; omega) (B.kin _ _ hF.at_) rfl B.lim (codeRec_of B.kin hF.cd) hbody (hbind s A p)
    (fun x hx e => by have := List.all_eq_true.mp hF.cell x hx; rw [e] at this; cases this) (fun x hx => hF.ok.loc _ (List.mem_of_mem_take (List.of_mem_zip (a := x.1) (b := x.2) hx).1)) (fun h₁ hns hk => ?_) hF.co hgen hF.ok.kind
  have key := (h (Cx.enter F p) rfl rfl p.pre).run { s with heap := h₁, toks := s.toks + ((F.names.take vals.length).zip vals).length } (by
    refine ⟨⟨?_, fun b o e => hk b o (nm b o e), Nat.le_of_eq (hideAll_size _ _)⟩, fun q hq => ⟨hk _ _ (p.led q hq), Nat.ne_of_lt (Heap.lt_size (p.led q hq)), hideAll_none _ (List.mem_map_of_mem hq)⟩, p.nd, .refl _, rfl⟩
    have e : (fun x => ((F.names.take vals.length).zip vals).reverse.lookup x) = slot F.names V₀ := funext fun x => by rw [revlook hF.ok.nd hl, hV]
    rw [e] at hns
    exact hns)
  rw [show (Cx.enter F p).env = callEnv F.fd s.heap.objs.size F.addr from congrFun (congrFun hF.mk_ _) _] at key
  refine ks_wpAt_mono key (fun f s' ⟨V', H', v', H'', hs, q⟩ => ?_) fun e s' ⟨_, _, _, x⟩ => x.elim
  have st := (v'.subP hs).step (s := s) (own := keys P) rfl rfl rfl
  cases f <;> exact ⟨H'', st, q⟩
-- part Ru7
theorem slot_none (names : List Str) : slot names (List.replicate names.length none) = fun _ => none := by
  funext x
  unfold slot
  have : ∀ (l : List Str), ((l.zip (List.replicate l.length (none : Option Value))).lookup x).join = none := by
    intro l
    induction l with
    | nil => rfl
    | cons y r ih =>
      rw [List.length_cons, List.replicate_succ, List.zip_cons_cons, List.lookup_cons]
      cases (x == y) with
      | true => rfl
      | false => exact ih
  exact this names

section
variable {Fx : Fn} {C : Cx Fx} {E : Value → Vals → Led → Prop} {V : Vals} {H : Led}

/-- an inner view closes: what it made is kept -/
theorem Vw.after {F' : Fn} {C' : Cx F'} {s s' : Shared} {V' : Vals} {H' : Led} (v : Vw C V H s) (v' : Vw C' V' H' s') (h0 : C'.h₀ = s.heap) (hg : C'.g₀ = s.gens) (ho : C'.os₀ = s.os) {P : Led} (hP : SubP P H') {h' : Heap} (hs : Heap.SameBut C'.L s'.heap h') :
    Vw C V (P ++ H) { s' with heap := h' } := by
  have vP := v'.subP hP
  have hL : s.heap.objs.size ≤ C'.L := by have := v'.fr.above; rw [h0] at this; exact this
  have keep : ∀ a o, s.heap.get? a = some o → h'.get? a = some o := fun a o e => by
    have h1 := v'.fr.keep a o (by rw [h0]; exact e)
    rw [hs.2 a (fun q => by subst q; exact absurd (Heap.lt_size e) (Nat.not_lt.mpr hL))]
    exact h1
  have vk := v.keeps keep
  have new : ∀ p ∈ P, h'.get? p.1 = some p.2 ∧ s.heap.get? p.1 = none := fun p hp => by
    have x := vP.nw p hp
    exact ⟨(hs.2 _ x.2.1).trans x.1, by rw [← h0]; exact x.2.2⟩
  refine ⟨vk.fr, fun p hp => ?_, ?_, v.gens.trans (hg ▸ v'.gens), v'.os.trans (ho.trans v.os)⟩
  · rcases List.mem_append.mp hp with q | q
    · obtain ⟨a, b⟩ := new p q
      refine ⟨a, fun e => ?_, ?_⟩
      · obtain ⟨oL, es, ep, hLL, r⟩ := v.fr.ns
        rw [e, hLL] at b; cases b
      · cases q' : C.h₀.get? p.1 with
        | none => rfl
        | some o => rw [v.old q'] at b; cases b
    · exact vk.nw p q
  · rw [List.map_append, List.nodup_append]
    refine ⟨vP.nd, v.nd, fun a ha b hb e => ?_⟩
    subst e
    obtain ⟨p, hp, rfl⟩ := List.mem_map.mp ha
    obtain ⟨q, hq, e⟩ := List.mem_map.mp hb
    have y := v.at hq
    have e2 : q.1 = p.1 := e
    rw [e2, (new p hp).2] at y
    cases y

/-- a comprehension over a list, no test -/
theorem w_ListComp {F' : Fn} (ok' : FnOk F') {elt target iter : Expr} {sc : Scope} {pos : Pos} {Q : Value → Vals → Led → Prop}
    (hmk : ∀ L, F'.mkE L C.L = newEnv sc L C.env.globals [] C.env.qual none .none (some C.env) builtinsNs) (hsc : sc.kind = .function)
    (hfree : (sc.names.all fun x => x.2 != .free && x.2 != .cell) = true) (hnames : (sc.names.all fun x => x.2 != .local || sc.names.lookup x.1 == some .local) = true)
    (h : W C E (eval iter C.env) V H (fun x V1 H1 => ∃ l ol vs, x = .ref l ∧ Has C H1 l ol ∧ LO ol vs ∧ vs.length ≤ 100000 ∧ ∃ R : Nat → List Value → Prop, R 0 [] ∧
      (∀ (C' : Cx F') V' H' i y ws, C'.w = C.w → C'.n = C.n → (∀ a o, Has C H1 a o → C'.h₀.get? a = some o) → vs[i]? = some y → R i ws → V'.length = F'.names.length →
        W C' NoE (assign target C'.env y) V' H' (fun _ V2 H2 => W C' NoE (eval elt C'.env) V2 H2 (fun z V3 H3 => V3.length = F'.names.length ∧ SubP H' H3 ∧ R (i + 1) (ws ++ [z])))) ∧
      (∀ ws a, ws.length = vs.length → R vs.length ws → Q (.ref a) V1 ((a, listO ws vs.length) :: H1))))
    (hfold : ∀ x, foldedSetIterable iter C.env x = Pure.pure x := by intro _; kernel_rfl) (ht : ∀ it v, letOwnedTupleGo target it v = Pure.pure () := by intro _ _; rfl) :
    W C E (eval (.ListComp elt [⟨target, iter, [], 0⟩] sc pos) C.env) V H Q := .mk fun s v => by
  have hf : ∀ x ∈ sc.names, x.2 ≠ .free := fun x hx e => by have := List.all_eq_true.mp hfree x hx; rw [e] at this; simp at this
  have hc : ∀ x ∈ sc.names, x.2 ≠ .cell := fun x hx e => by have := List.all_eq_true.mp hfree x hx; rw [e] at this; simp at this
  have hn : ∀ x ∈ sc.names, x.2 = .local → sc.names.lookup x.1 = some .local := fun x hx e => by
    have := List.all_eq_true.mp hnames x hx
    rw [e] at this
    simpa using this
  refine PySem.wpAny_ListComp hf hsc hn (wpAny_mono (h.run s v) (fun x s1 ⟨V1, H1, v1, l, ol, vs, hx, hl, lo, hlen, R, hR0, step, fin⟩ => ?_) fun _ _ x => x) hfold
  subst hx
  refine wpAny_pyIter_list (lo.isList (hl.at v1)) ?_
  refine wpAny_newObj_type ?_ (by show (#[] : Array Value).size ≤ sizeLine; exact Nat.zero_le _)
  refine wpAny_newFunctionEnv hc (fun _ hx => nomatch hx) (fun h4 hns hsb => ?_) hsc
  have e0 : (fun x : Str => ([] : List (Str × Value)).reverse.lookup x) = slot F'.names (List.replicate F'.names.length none) := by rw [slot_none]; rfl
  rw [e0] at hns
  obtain ⟨oi, hoi⟩ : ∃ oi : Obj, oi = { cls := .type "list_iterator", data := .fields #[.ref l, .int 0 0] } := ⟨_, rfl⟩
  rw [← hoi] at hns hsb ⊢
  have sz1 : (s1.heap.push oi).objs.size = s1.heap.objs.size + 1 := Heap.size_push ..
  have sz2 : ((s1.heap.push oi).push (listO [] 0)).objs.size = s1.heap.objs.size + 1 + 1 := by rw [Heap.size_push, sz1]
  obtain ⟨N, hN⟩ : ∃ N : Nat, N = s1.heap.objs.size := ⟨_, rfl⟩
  obtain ⟨A1, hA1⟩ : ∃ A1 : Nat, A1 = (s1.heap.push oi).objs.size := ⟨_, rfl⟩
  have hA1' : A1 = N + 1 := by rw [hA1, sz1, hN]
  have hZ : ((s1.heap.push oi).push (listO [] 0)).objs.size = N + 2 := by rw [sz2, hN]
  have g1 : ∀ b o, s1.heap.get? b = some o → h4.get? b = some o := fun b o e => by
    have hb : (b : Nat) < N := by rw [hN]; exact Heap.lt_size e
    have : h4.get? b = _ := hsb.2 b (by show (b : Nat) ≠ ((s1.heap.push oi).push (listO [] 0)).objs.size; rw [hZ]; exact Nat.ne_of_lt (Nat.lt_of_lt_of_le hb (Nat.le_add_right N 2)))
    rw [this]
    exact Heap.get?_push_of_some _ (Heap.get?_push_of_some _ (Heap.get?_push_of_some _ e))
  have g2 : h4.get? s1.heap.objs.size = some oi := by
    have : h4.get? s1.heap.objs.size = _ := hsb.2 _ (by show s1.heap.objs.size ≠ ((s1.heap.push oi).push (listO [] 0)).objs.size; rw [hZ, hN]; exact Nat.ne_of_lt (Nat.lt_add_of_pos_right (by decide)))
    rw [this]
    exact Heap.get?_push_of_some _ (Heap.get?_push_of_some _ (Heap.get?_push_size _ (by rw [hoi]; rfl)))
  have g3 : h4.get? A1 = some (listO [] 0) := by
    have : h4.get? A1 = _ := hsb.2 _ (by show A1 ≠ ((s1.heap.push oi).push (listO [] 0)).objs.size; rw [hZ, hA1']; exact Nat.ne_of_lt (Nat.lt_succ_self _))
    rw [this]
    refine Heap.get?_push_of_some _ ?_
    rw [hA1]
    exact Heap.get?_push_size (s1.heap.push oi) (o := listO [] 0) rfl
  have nn : ∀ k : Nat, N ≤ k → s1.heap.get? k = none := fun k hk => by
    cases e : s1.heap.get? k with
    | none => rfl
    | some o => exact absurd (Nat.lt_of_lt_of_le (Heap.lt_size e) (hN ▸ hk)) (Nat.lt_irrefl _)
  let C' : Cx F' := { w := C.w, A := C.A, L := ((s1.heap.push oi).push (listO [] 0)).objs.size, h₀ := s1.heap, g₀ := s1.gens, os₀ := s1.os, n := C.n, aok := C.aok, base := v1.base, out := C.L }
  have hLc : C'.L = N + 2 := hZ
  have en : C'.env = newEnv sc C'.L C.env.globals [] C.env.qual none .none (some C.env) builtinsNs := hmk _
  have v4 : Vw C' (List.replicate F'.names.length none) [(s1.heap.objs.size, oi), (A1, listO [] 0)] { s1 with heap := h4 } := by
    refine ⟨⟨hns, g1, by show s1.heap.objs.size ≤ C'.L; rw [hLc, hN]; exact Nat.le_add_right _ 2⟩, fun p hp => ?_, ?_, .refl _, rfl⟩
    · rcases List.mem_cons.mp hp with rfl | hp
      · exact ⟨g2, by show s1.heap.objs.size ≠ C'.L; rw [hLc, hN]; exact Nat.ne_of_lt (Nat.lt_add_of_pos_right (by decide)), nn _ (Nat.le_of_eq hN)⟩
      · rcases List.mem_cons.mp hp with rfl | hp
        · exact ⟨g3, by show A1 ≠ C'.L; rw [hLc, hA1']; exact Nat.ne_of_lt (Nat.lt_succ_self _), nn _ (by rw [hA1']; exact Nat.le_succ _)⟩
        · cases hp
    · have : s1.heap.objs.size ≠ A1 := by rw [hA1', hN]; exact Nat.ne_of_lt (Nat.lt_succ_self _)
      simpa using this
  have hL0 : ∀ a o, Has C H1 a o → C'.h₀.get? a = some o := fun a o x => x.at v1
  have body : ∀ s, Vw C' (List.replicate F'.names.length none) [(s1.heap.objs.size, oi), (A1, listO [] 0)] s → codeAny (model prog C.w) C.A (.compLoop (.ListComp elt [⟨target, iter, [], 0⟩] sc pos) 0 (.ref s1.heap.objs.size) (.ref A1) C'.env)
      (fun r s' => ∃ m, s'.heap.Ns C'.L m ∧ ∀ h', Heap.SameBut C'.L s'.heap h' → match r with
        | .ok _ => ∃ V' H', Vw C V' H' { s' with heap := h' } ∧ Q (.ref A1) V' H'
        | .error x => wpAny (model prog C.w) C.A (passOn "comprehension.variables-let-go" x C'.env) (fun a s' => ∃ V' H', Vw C V' H' s' ∧ Q a V' H') (fun e s' => ∃ V' H', Vw C V' H' s' ∧ E e V' H') { s' with heap := h' }) s := fun s vs0 => by
    refine PySem.codeAny_compLoop_list (fun n s => ∃ i ws V' oi', i + n = vs.length ∧ Vw C' V' [(s1.heap.objs.size, oi'), (A1, listO ws i)] s ∧ V'.length = F'.names.length ∧ LIt l i oi' ∧ R i ws ∧ ws.length = i) ?_ vs.length
      ⟨0, [], _, oi, by omega, vs0, by simp, hoi ▸ ⟨rfl, rfl⟩, hR0, rfl⟩ (ht _)
    rintro n s ⟨i, ws, V', oi', hin, vv, hV', hit, hR, hws⟩
    have hlist := lo.isList (vv.old (hL0 _ _ hl))
    by_cases hi : i < vs.length
    · refine wpAny_pyNext_list_item (x := vs[i]) ⟨oi', vv.at (.head _), hit.1, hit.2⟩ hlist (by simp [hi]) fun h' ⟨o', e, c, d⟩ sb => ?_
      dsimp only
      have v5 := vv.upd .head sb e
      have key := (step C' V' _ i vs[i] ws rfl rfl hL0 (List.getElem?_eq_getElem hi) hR hV').run _ v5
      refine wpAny_mono key (fun _ s6 ⟨V6, H6, v6, k6⟩ => ?_) fun _ _ ⟨_, _, _, x⟩ => x.elim
      refine wpAny_mono (k6.run s6 v6) (fun z s7 ⟨V7, H7, v7, hV7, hS, hR7⟩ => ?_) fun _ _ ⟨_, _, _, x⟩ => x.elim
      have v8 := v7.subP hS
      refine append_at (v8.at (.tail _ (.head _))) (fun h' sb e => ?_) (line_le (by simp; omega))
      exact ⟨n - 1, by omega, i + 1, ws ++ [z], V7, o', by omega, v8.upd (.tail .head) sb (by rw [e]; simp [listO]), hV7, ⟨c, d⟩, hR7, by simp [hws]⟩
    · have hi' : i = vs.length := by omega
      subst hi'
      refine wpAny_pyNext_list_end C.aok.hnd ⟨oi', vv.at (.head _), hit.1, hit.2⟩ hlist (by simp) fun h' e => ?_
      have v5 := vv.extBut rfl e
      refine ⟨_, v5.fr.ns, fun h'' hsb' => ?_⟩
      have := v1.after v5 rfl rfl rfl .rfl hsb'
      exact ⟨V1, _, this, fin ws _ hws hR⟩
  have hbody := body _ v4
  rw [en, hA1] at hbody
  have tk : ({ s1 with heap := h4 } : Shared) = { s1 with heap := h4, toks := s1.toks + ([] : List (Str × Value)).length } := rfl
  refine PySem.codeAny_compStart_list hbody ?_
  refine PySem.wpAny_pyIter_listiter (i := 0) (l := l) ⟨oi, g2, by rw [hoi], by rw [hoi]; rfl⟩ ?_
  exact hbody
end
-- part Ru8
section
variable {Fx : Fn} {C : Cx Fx} {E : Value → Vals → Led → Prop} {V : Vals} {H : Led} {t u : Tok}

/-! cuts of other kinds -/
theorem cut_rev {x : List Nat} {i : Int} {ti : Tok} {Q : Value → Vals → Led → Prop} (hi : i = -1) (hsz : x.length ≤ 16777216) (h : ∀ t, Q (.str (S x.reverse) t) V H) : Cut C E (.str (S x) t) .none .none (.int i ti) V H Q :=
  .of (fun s _ => typeIs_str s _ _) F.slot_str_getitem.lookup fun s a v ha => by
    subst hi
    have v' := v.subP (H' := H) (.skip .rfl)
    refine wpAny_getItem_str_slice (l := none) (u := none) (st := some (-1, ti)) ⟨_, ha, rfl, rfl⟩ rfl ?_
    have e : (Builtin.Str.strSliceIndices none none (-1) (S x).length).filterMap ((S x).cps[·]?) = x.reverse := by
      rw [S_len]; simpa [S] using rev_str x
    unfold sliceMade slicePicked
    show Made.post (if _ then _ else _) _ _
    split
    · rename_i hc
      exfalso
      simp at hc
    · refine ⟨line_le ?_, ?_⟩
      · show (List.filterMap _ _).toArray.size ≤ _
        rw [List.size_toArray]
        show (List.filterMap _ (Builtin.Str.strSliceIndices none none (-1) (S x).length)).length ≤ _
        rw [e, List.length_reverse]; exact hsz
      · show ∃ V' H', _ ∧ Q (.str ⟨(List.filterMap _ (Builtin.Str.strSliceIndices none none (-1) (S x).length)).toArray⟩ _) V' H'
        rw [e]
        exact ⟨V, H, v'.toks _, h _⟩
theorem cut_B {x : List UInt8} {l uu : Value} {lo hi : Option Int} {Q : Value → Vals → Led → Prop} (hl : IsPart l lo) (hu : IsPart uu hi) (hsz : x.length ≤ 1000000) (h : ∀ t, Q (.bytes (cut x lo hi).toArray t) V H) : Cut C E (.bytes x.toArray t) l uu .none V H Q :=
  .of (fun s _ => PySem.W.typeIs_bytes _ _ _) FB.slot_bytes_getitem.lookup fun s a v ha => by
    have v' := v.subP (H' := H) (.skip .rfl)
    refine getItem_meets (PySem.W.typeIs_bytes _ _ _) (by decide) FB.slot_bytes_getitem FB.entry_bytes_getitem (FB.args_bytes_getitem_2 _ _) (KBc.meets_slice2 x.toArray t a hl hu) ⟨⟨_, ha, rfl, rfl⟩, ?_, fun t' k => ?_⟩
    · rw [bytes_cut]; refine line_le ?_; rw [List.size_toArray]; exact Nat.le_trans (cut_le _ _ _) (by omega)
    · rw [bytes_cut]; exact ⟨V, H, v'.toks _, h _⟩
theorem cut_L {p : Addr} {op : Obj} {x : List Value} {l uu : Value} {lo hi : Option Int} {Q : Value → Vals → Led → Prop} (hp : Has C H p op) (lo' : LO op x) (hl : IsPart l lo) (hu : IsPart uu hi) (hsz : x.length ≤ 1000000) (h : ∀ a, Q (.ref a) V ((a, listO (cut x lo hi) 0) :: H)) : Cut C E (.ref p) l uu .none V H Q :=
  .of (fun s v => (lo'.isList (hp.at v)).typeIs) slot_list_getitem.lookup fun s a v ha => by
    have v' := v.subP (H' := H) (.skip .rfl)
    refine wpAny_getItem_list_slice (lo'.isList (hp.at v')) ⟨_, ha, rfl, rfl⟩ hl hu .none (by simp) ?_ (line_le (by simp; omega))
    rw [pick_cut]
    exact ⟨V, _, v'.push rfl, h _⟩

/-! join -/
inductive StrL : List Value → List (List Nat) → Prop
  | nil : StrL [] []
  | cons {y : List Nat} {t : Tok} {vs : List Value} {ys : List (List Nat)} : StrL vs ys → StrL (.str (S y) t :: vs) (y :: ys)
theorem StrL.are {vs : List Value} {ys : List (List Nat)} (h : StrL vs ys) : StrsAre vs (ys.map S) := by
  induction h with
  | nil => exact .nil
  | cons _ ih => exact .cons _ _ ih
theorem StrL.snoc {vs : List Value} {ys : List (List Nat)} {y : List Nat} {t : Tok} (h : StrL vs ys) : StrL (vs ++ [.str (S y) t]) (ys ++ [y]) := by
  induction h with
  | nil => exact .cons .nil
  | cons _ ih => exact .cons ih
theorem join_empty : ∀ (ys : List (List Nat)), Txt.join (S []) (ys.map S) = S ys.flatten
  | [] => rfl
  | [y] => by
    show Builtin.Str.glued (S []) [S y] = _
    rw [StrLaws.glued_eq_join]
    simp [Str.join]
  | y :: z :: r => by
    have ih := join_empty (z :: r)
    have ih' : Str.join (S []) ((z :: r).map S) = S (z :: r).flatten := by rw [← StrLaws.glued_eq_join]; exact ih
    show Builtin.Str.glued (S []) ((y :: z :: r).map S) = _
    rw [StrLaws.glued_eq_join]
    show S y ++ S [] ++ Str.join (S []) ((z :: r).map S) = _
    rw [ih', S_add, S_add, List.append_nil, List.flatten_cons (l := y)]
theorem join_sz : ∀ (ys : List (List Nat)), ((ys.map S).map (·.length)).sum = ys.flatten.length
  | [] => rfl
  | y :: r => by
    rw [List.map_cons, List.map_cons, List.sum_cons, join_sz r, S_len, List.flatten_cons, List.length_append]
variable {Q : Value → Vals → Led → Prop}
theorem w_join_list {l : Addr} {o : Obj} {vs : List Value} {ys : List (List Nat)} (hl : Has C H l o) (lo : LO o vs) (hs : StrL vs ys) (hz : ys.flatten.length ≤ 1000000) (h : ∀ t, Q (.str (S ys.flatten) t) V H) :
    W C E (call (.builtin "str.join") [.str (S []) t, .ref l]) V H Q := .mk fun s v =>
  join_list (ys := ys.map S) (lo.isList (hl.at v)) hs.are (by rw [join_sz]; show _ + _ * (S []).length ≤ _; rw [S_len, List.length_nil, Nat.mul_zero]; omega) fun t' k => ⟨V, H, v.toks _, by rw [join_empty]; exact h _⟩
theorem w_join_tup {l : Addr} {vs : List Value} {ys : List (List Nat)} (hl : Has C H l (tupO vs)) (hs : StrL vs ys) (hz : ys.flatten.length ≤ 1000000) (h : ∀ t, Q (.str (S ys.flatten) t) V H) :
    W C E (call (.builtin "str.join") [.str (S []) t, .ref l]) V H Q := .mk fun s v =>
  join_tuple (items := vs.toArray) (ys := ys.map S) ⟨_, hl.at v, rfl, 0, rfl⟩ (by simpa using hs.are) (by rw [join_sz]; show _ + _ * (S []).length ≤ _; rw [S_len, List.length_nil, Nat.mul_zero]; omega) fun t' k => ⟨V, H, v.toks _, by rw [join_empty]; exact h _⟩

/-! tuples -/
theorem w_tuple_list {l : Addr} {o : Obj} {vs : List Value} (hl : Has C H l o) (lo : LO o vs) (hz : vs.length ≤ 1000000) (h : ∀ a, Q (.ref a) V ((a, tupO vs) :: H)) : W C E (call (.type "tuple") [.ref l]) V H Q := .mk fun s v =>
  call_tuple_list (lo.isList (hl.at v)) (fun h' hk => ⟨V, _, (v.keeps hk).push rfl, h _⟩) (line_le (by simp; omega))
theorem w_add_tup {a b : Addr} {vs ws : List Value} (ha : Has C H a (tupO vs)) (hb : Has C H b (tupO ws)) (hz : vs.length + ws.length ≤ 1000000) (h1 : Q (.ref a) V H) (h2 : Q (.ref b) V H) (h : ∀ c, Q (.ref c) V ((c, tupO (vs ++ ws)) :: H)) :
    W C E (binaryOp .Add (.ref a) (.ref b)) V H Q := .mk fun s v =>
  add_tuples v.fr v.nw ⟨_, ha.at v, rfl, 0, rfl⟩ ⟨_, hb.at v, rfl, 0, rfl⟩ (fun _ => ⟨V, H, v, h2⟩) (fun _ _ => ⟨V, H, v, h1⟩) (fun _ _ h' F' N' => ⟨V, _, ⟨F', N', (v.push (o := tupO (vs ++ ws)) rfl).nd, v.gens, v.os⟩, h _⟩) (line_le (by omega))
theorem w_extend {l b : Addr} {vs ws : List Value} {n m : Nat} {R : Obj → Led} (hb : Has C H b (listO ws m)) (hU : ∀ o', UpdL l (listO vs n) o' H (R o')) (hz : vs.length + ws.length ≤ 1000000) (h : ∀ n', Q .none V (R (listO (vs ++ ws) n'))) :
    W C E (call (.builtin "list.extend") [.ref l, .ref b]) V H Q := .mk fun s v => by
  have hm := v.at (hU (listO vs n)).mem
  have hz' : vs.toArray.size + ws.toArray.size ≤ sizeLine := line_le (by simp; omega)
  refine call_meets PySem.F.slot_list_extend ⟨_, hm, rfl⟩ PySem.F.entry_list_extend (PySem.F.args_list_extend_2 _ _) (AutoSeq1.list_extend_list_list_0 l vs.toArray n b ws.toArray m (extend_door hz') (Nat.le_trans (Nat.le_add_right _ _) hz') (Nat.le_trans hz' (Nat.le_add_right _ _))) ⟨hm, hb.at v, ?_⟩
  have e : vs.toArray ++ ws.toArray = (vs ++ ws).toArray := by simp
  have ho' : (s.heap.update l (Obj.mapSeq fun x => x ++ ws.toArray)).get? l = some (listO (vs ++ ws) (if (vs.toArray ++ ws.toArray).size == vs.toArray.size then n else n + 1)) := by
    rw [Heap.get?_update_self _ hm (by rw [mapSeq_app]; rfl), mapSeq_app, e]
  exact ⟨V, _, v.upd (hU _) (Heap.SameBut.update ..) ho', h _⟩
theorem w_len_tup {l : Addr} {vs : List Value} (hl : Has C H l (tupO vs)) (hz : vs.length ≤ 1000000) (h : ∀ k, Q (.int vs.length k) V H) : W C E (call (.builtin "len") [.ref l]) V H Q := .mk fun s v =>
  len_tuple (items := vs.toArray) ⟨_, hl.at v, rfl, 0, rfl⟩ (by simp; omega) ⟨V, H, v.toks _, by simpa using h _⟩

/-! isinstance -/
theorem w_isi_val {x : Value} {T U : String} {b : Bool} (h : ∀ s : Shared, ∀ (P : Value → Shared → Prop) (E' : Value → Shared → Prop), (∀ k, P (.bool b) { s with toks := k }) → wpAny (model prog C.w) C.A (call (.builtin "isinstance") [x, .type U]) P E' s) (hq : Q (.bool b) V H) :
    W C E (call (.builtin "isinstance") [x, .type U]) V H Q := .mk fun s v => h s _ _ fun k => ⟨V, H, v.toks _, hq⟩
theorem w_isi_int_bool {n : Int} (h : Q (.bool false) V H) : W C E (call (.builtin "isinstance") [.int n t, .type "bool"]) V H Q := .mk fun s v => IsiPair.int_bool ⟨V, H, v.toks _, h⟩
theorem w_isi_int_bytes {n : Int} (h : Q (.bool false) V H) : W C E (call (.builtin "isinstance") [.int n t, .type "bytes"]) V H Q := .mk fun s v => IsiPair.int_bytes ⟨V, H, v.toks _, h⟩
theorem w_isi_str_bool {x : Str} (h : Q (.bool false) V H) : W C E (call (.builtin "isinstance") [.str x t, .type "bool"]) V H Q := .mk fun s v => IsiPair.str_bool ⟨V, H, v.toks _, h⟩
theorem w_isi_str_bytes {x : Str} (h : Q (.bool false) V H) : W C E (call (.builtin "isinstance") [.str x t, .type "bytes"]) V H Q := .mk fun s v => IsiPair.str_bytes ⟨V, H, v.toks _, h⟩
theorem w_isi_bool_bool {x : Bool} (h : Q (.bool true) V H) : W C E (call (.builtin "isinstance") [.bool x, .type "bool"]) V H Q := .mk fun s v => IsiPair.bool_bool ⟨V, H, v, h⟩
theorem w_isi_bool_bytes {x : Bool} (h : Q (.bool false) V H) : W C E (call (.builtin "isinstance") [.bool x, .type "bytes"]) V H Q := .mk fun s v => IsiPair.bool_bytes ⟨V, H, v.toks _, h⟩
theorem w_isi_tup_tup {a : Addr} {vs : List Value} (ha : Has C H a (tupO vs)) (h : Q (.bool true) V H) : W C E (call (.builtin "isinstance") [.ref a, .type "tuple"]) V H Q := .mk fun s v => IsiPair.tuple_tuple (ha.at v) rfl ⟨V, H, v, h⟩
theorem w_isi_none_tup (h : Q (.bool false) V H) : W C E (call (.builtin "isinstance") [.none, .type "tuple"]) V H Q := .mk fun s v => IsiPair.NoneType_tuple ⟨V, H, v.toks _, h⟩

/-! str of an int -/
noncomputable def decL (n : Nat) : List Nat := if n < 10 then [48 + n] else [48 + n / 10, 48 + n % 10]
theorem decL_eq : ∀ n : Fin 30, Str.ofString (toString ((n : Nat) : Int)) = S (decL n) := by decide +kernel
theorem w_str_int {n : Nat} {i : Int} (hi : i = n) (hz : n < 30) (h : ∀ t, Q (.str (S (decL n)) t) V H) : W C E (call (.type "str") [.int i t]) V H Q := .mk fun s v => by
  subst hi
  have hl : ((n : Int).natAbs).log2 < 1920 := by
    rw [Int.natAbs_natCast]
    rcases Nat.eq_zero_or_pos n with rfl | hp
    · decide
    · exact (Nat.log2_lt (by omega)).mpr (Nat.lt_trans hz (by decide))
  refine P.str_of_int hl ⟨V, H, v.toks _, ?_⟩
  have := decL_eq ⟨n, hz⟩
  rw [show (toString (n : Int) : Str) = S (decL n) from this]
  exact h _
end
-- part Fns
@[reducible] noncomputable def fn_turned : Fn := { addr := 560, names := [Str.ofString "number", Str.ofString "size", Str.ofString "out", Str.ofString "_step"], fd := fdAt 560 }
theorem turned_is (w : World) : FnIs w fn_turned where
  ok := { nd := by decide +kernel, loc := by decide +kernel, kind := by kernel_rfl, dbg := by decide +kernel, gl := by kernel_rfl, bn := by kernel_rfl, en := fun _ _ => ⟨rfl, rfl, by kernel_rfl, by kernel_rfl⟩ }
  at_ := by kernel_rfl
  cd := by kernel_rfl
  co := by kernel_rfl
  cell := by kernel_rfl
  mk_ := rfl
@[reducible] noncomputable def fn_put : Fn := { addr := 567, names := [Str.ofString "have", Str.ofString "total", Str.ofString "place", Str.ofString "size", Str.ofString "number", Str.ofString "low", Str.ofString "front"], fd := fdAt 567 }
theorem put_is (w : World) : FnIs w fn_put where
  ok := { nd := by decide +kernel, loc := by decide +kernel, kind := by kernel_rfl, dbg := by decide +kernel, gl := by kernel_rfl, bn := by kernel_rfl, en := fun _ _ => ⟨rfl, rfl, by kernel_rfl, by kernel_rfl⟩ }
  at_ := by kernel_rfl
  cd := by kernel_rfl
  co := by kernel_rfl
  cell := by kernel_rfl
  mk_ := rfl
@[reducible] noncomputable def fn_draw : Fn := { addr := 553, names := [Str.ofString "box", Str.ofString "limit", Str.ofString "few"], fd := fdAt 553 }
theorem draw_is (w : World) : FnIs w fn_draw where
  ok := { nd := by decide +kernel, loc := by decide +kernel, kind := by kernel_rfl, dbg := by decide +kernel, gl := by kernel_rfl, bn := by kernel_rfl, en := fun _ _ => ⟨rfl, rfl, by kernel_rfl, by kernel_rfl⟩ }
  at_ := by kernel_rfl
  cd := by kernel_rfl
  co := by kernel_rfl
  cell := by kernel_rfl
  mk_ := rfl
@[reducible] noncomputable def fn_laid : Fn := { addr := 574, names := [Str.ofString "have", Str.ofString "total", Str.ofString "place", Str.ofString "group", Str.ofString "low_first", Str.ofString "number", Str.ofString "left", Str.ofString "room"], fd := fdAt 574 }
theorem laid_is (w : World) : FnIs w fn_laid where
  ok := { nd := by decide +kernel, loc := by decide +kernel, kind := by kernel_rfl, dbg := by decide +kernel, gl := by kernel_rfl, bn := by kernel_rfl, en := fun _ _ => ⟨rfl, rfl, by kernel_rfl, by kernel_rfl⟩ }
  at_ := by kernel_rfl
  cd := by kernel_rfl
  co := by kernel_rfl
  cell := by kernel_rfl
  mk_ := rfl
@[reducible] noncomputable def fn_field : Fn := { addr := 581, names := [Str.ofString "kind", Str.ofString "wide", Str.ofString "drawn", Str.ofString "size", Str.ofString "number", Str.ofString "value", Str.ofString "whole", Str.ofString "rest", Str.ofString "top", Str.ofString "given", Str.ofString "letter", Str.ofString "text", Str.ofString "second"], fd := fdAt 581 }
theorem field_is (w : World) : FnIs w fn_field where
  ok := { nd := by decide +kernel, loc := by decide +kernel, kind := by kernel_rfl, dbg := by decide +kernel, gl := by kernel_rfl, bn := by kernel_rfl, en := fun _ _ => ⟨rfl, rfl, by kernel_rfl, by kernel_rfl⟩ }
  at_ := by kernel_rfl
  cd := by kernel_rfl
  co := by kernel_rfl
  cell := by kernel_rfl
  mk_ := rfl
@[reducible] noncomputable def fn_alike : Fn := { addr := 588, names := [Str.ofString "got", Str.ofString "want", Str.ofString "one", Str.ofString "other"], fd := fdAt 588 }
theorem alike_is (w : World) : FnIs w fn_alike where
  ok := { nd := by decide +kernel, loc := by decide +kernel, kind := by kernel_rfl, dbg := by decide +kernel, gl := by kernel_rfl, bn := by kernel_rfl, en := fun _ _ => ⟨rfl, rfl, by kernel_rfl, by kernel_rfl⟩ }
  at_ := by kernel_rfl
  cd := by kernel_rfl
  co := by kernel_rfl
  cell := by kernel_rfl
  mk_ := rfl
@[reducible] noncomputable def fn_info_init : Fn := { addr := 92, names := [Str.ofString "self", Str.ofString "size", Str.ofString "name"], fd := fdAt 92 }
theorem info_init_is (w : World) : FnIs w fn_info_init where
  ok := { nd := by decide +kernel, loc := by decide +kernel, kind := by kernel_rfl, dbg := by decide +kernel, gl := by kernel_rfl, bn := by kernel_rfl, en := fun _ _ => ⟨rfl, rfl, by kernel_rfl, by kernel_rfl⟩ }
  at_ := by kernel_rfl
  cd := by kernel_rfl
  co := by kernel_rfl
  cell := by kernel_rfl
  mk_ := rfl
@[reducible] noncomputable def fn_s_init : Fn := { addr := 115, names := [Str.ofString "self", Str.ofString "size", Str.ofString "name"], fd := fdAt 115 }
theorem s_init_is (w : World) : FnIs w fn_s_init where
  ok := { nd := by decide +kernel, loc := by decide +kernel, kind := by kernel_rfl, dbg := by decide +kernel, gl := by kernel_rfl, bn := by kernel_rfl, en := fun _ _ => ⟨rfl, rfl, by kernel_rfl, by kernel_rfl⟩ }
  at_ := by kernel_rfl
  cd := by kernel_rfl
  co := by kernel_rfl
  cell := by kernel_rfl
  mk_ := rfl
@[reducible] noncomputable def fn_s_pack : Fn := { addr := 122, names := [Str.ofString "self", Str.ofString "arg", Str.ofString "value"], fd := fdAt 122 }
theorem s_pack_is (w : World) : FnIs w fn_s_pack where
  ok := { nd := by decide +kernel, loc := by decide +kernel, kind := by kernel_rfl, dbg := by decide +kernel, gl := by kernel_rfl, bn := by kernel_rfl, en := fun _ _ => ⟨rfl, rfl, by kernel_rfl, by kernel_rfl⟩ }
  at_ := by kernel_rfl
  cd := by kernel_rfl
  co := by kernel_rfl
  cell := by kernel_rfl
  mk_ := rfl
@[reducible] noncomputable def fn_s_unpack : Fn := { addr := 129, names := [Str.ofString "self", Str.ofString "bits", Str.ofString "value"], fd := fdAt 129 }
theorem s_unpack_is (w : World) : FnIs w fn_s_unpack where
  ok := { nd := by decide +kernel, loc := by decide +kernel, kind := by kernel_rfl, dbg := by decide +kernel, gl := by kernel_rfl, bn := by kernel_rfl, en := fun _ _ => ⟨rfl, rfl, by kernel_rfl, by kernel_rfl⟩ }
  at_ := by kernel_rfl
  cd := by kernel_rfl
  co := by kernel_rfl
  cell := by kernel_rfl
  mk_ := rfl
@[reducible] noncomputable def fn_u_init : Fn := { addr := 150, names := [Str.ofString "self", Str.ofString "size", Str.ofString "name"], fd := fdAt 150 }
theorem u_init_is (w : World) : FnIs w fn_u_init where
  ok := { nd := by decide +kernel, loc := by decide +kernel, kind := by kernel_rfl, dbg := by decide +kernel, gl := by kernel_rfl, bn := by kernel_rfl, en := fun _ _ => ⟨rfl, rfl, by kernel_rfl, by kernel_rfl⟩ }
  at_ := by kernel_rfl
  cd := by kernel_rfl
  co := by kernel_rfl
  cell := by kernel_rfl
  mk_ := rfl
@[reducible] noncomputable def fn_u_pack : Fn := { addr := 157, names := [Str.ofString "self", Str.ofString "arg", Str.ofString "value"], fd := fdAt 157 }
theorem u_pack_is (w : World) : FnIs w fn_u_pack where
  ok := { nd := by decide +kernel, loc := by decide +kernel, kind := by kernel_rfl, dbg := by decide +kernel, gl := by kernel_rfl, bn := by kernel_rfl, en := fun _ _ => ⟨rfl, rfl, by kernel_rfl, by kernel_rfl⟩ }
  at_ := by kernel_rfl
  cd := by kernel_rfl
  co := by kernel_rfl
  cell := by kernel_rfl
  mk_ := rfl
@[reducible] noncomputable def fn_u_unpack : Fn := { addr := 164, names := [Str.ofString "self", Str.ofString "bits"], fd := fdAt 164 }
theorem u_unpack_is (w : World) : FnIs w fn_u_unpack where
  ok := { nd := by decide +kernel, loc := by decide +kernel, kind := by kernel_rfl, dbg := by decide +kernel, gl := by kernel_rfl, bn := by kernel_rfl, en := fun _ _ => ⟨rfl, rfl, by kernel_rfl, by kernel_rfl⟩ }
  at_ := by kernel_rfl
  cd := by kernel_rfl
  co := by kernel_rfl
  cell := by kernel_rfl
  mk_ := rfl
@[reducible] noncomputable def fn_b_pack : Fn := { addr := 185, names := [Str.ofString "self", Str.ofString "arg"], fd := fdAt 185 }
theorem b_pack_is (w : World) : FnIs w fn_b_pack where
  ok := { nd := by decide +kernel, loc := by decide +kernel, kind := by kernel_rfl, dbg := by decide +kernel, gl := by kernel_rfl, bn := by kernel_rfl, en := fun _ _ => ⟨rfl, rfl, by kernel_rfl, by kernel_rfl⟩ }
  at_ := by kernel_rfl
  cd := by kernel_rfl
  co := by kernel_rfl
  cell := by kernel_rfl
  mk_ := rfl
@[reducible] noncomputable def fn_b_unpack : Fn := { addr := 193, names := [Str.ofString "self", Str.ofString "bits"], fd := fdAt 193 }
theorem b_unpack_is (w : World) : FnIs w fn_b_unpack where
  ok := { nd := by decide +kernel, loc := by decide +kernel, kind := by kernel_rfl, dbg := by decide +kernel, gl := by kernel_rfl, bn := by kernel_rfl, en := fun _ _ => ⟨rfl, rfl, by kernel_rfl, by kernel_rfl⟩ }
  at_ := by kernel_rfl
  cd := by kernel_rfl
  co := by kernel_rfl
  cell := by kernel_rfl
  mk_ := rfl
@[reducible] noncomputable def fn_asciibuf : Fn := { addr := 218, names := [Str.ofString "data", Str.ofString "t"], fd := fdAt 218 }
theorem asciibuf_is (w : World) : FnIs w fn_asciibuf where
  ok := { nd := by decide +kernel, loc := by decide +kernel, kind := by kernel_rfl, dbg := by decide +kernel, gl := by kernel_rfl, bn := by kernel_rfl, en := fun _ _ => ⟨rfl, rfl, by kernel_rfl, by kernel_rfl⟩ }
  at_ := by kernel_rfl
  cd := by kernel_rfl
  co := by kernel_rfl
  cell := by kernel_rfl
  mk_ := rfl
@[reducible] noncomputable def fn_buffer : Fn := { addr := 225, names := [Str.ofString "data", Str.ofString "t"], fd := fdAt 225 }
theorem buffer_is (w : World) : FnIs w fn_buffer where
  ok := { nd := by decide +kernel, loc := by decide +kernel, kind := by kernel_rfl, dbg := by decide +kernel, gl := by kernel_rfl, bn := by kernel_rfl, en := fun _ _ => ⟨rfl, rfl, by kernel_rfl, by kernel_rfl⟩ }
  at_ := by kernel_rfl
  cd := by kernel_rfl
  co := by kernel_rfl
  cell := by kernel_rfl
  mk_ := rfl
@[reducible] noncomputable def fn_b2a : Fn := { addr := 234, names := [Str.ofString "data", Str.ofString "sep", Str.ofString "bytes_per_sep", Str.ofString "t"], fd := fdAt 234 }
theorem b2a_is (w : World) : FnIs w fn_b2a where
  ok := { nd := by decide +kernel, loc := by decide +kernel, kind := by kernel_rfl, dbg := by decide +kernel, gl := by kernel_rfl, bn := by kernel_rfl, en := fun _ _ => ⟨rfl, rfl, by kernel_rfl, by kernel_rfl⟩ }
  at_ := by kernel_rfl
  cd := by kernel_rfl
  co := by kernel_rfl
  cell := by kernel_rfl
  mk_ := rfl
@[reducible] noncomputable def fn_hexval : Fn := { addr := 241, names := [Str.ofString "c"], fd := fdAt 241 }
theorem hexval_is (w : World) : FnIs w fn_hexval where
  ok := { nd := by decide +kernel, loc := by decide +kernel, kind := by kernel_rfl, dbg := by decide +kernel, gl := by kernel_rfl, bn := by kernel_rfl, en := fun _ _ => ⟨rfl, rfl, by kernel_rfl, by kernel_rfl⟩ }
  at_ := by kernel_rfl
  cd := by kernel_rfl
  co := by kernel_rfl
  cell := by kernel_rfl
  mk_ := rfl
@[reducible] noncomputable def fn_a2b : Fn := { addr := 248, names := [Str.ofString "hexstr", Str.ofString "argbuf", Str.ofString "arglen", Str.ofString "out", Str.ofString "i", Str.ofString "top", Str.ofString "bot"], fd := fdAt 248 }
theorem a2b_is (w : World) : FnIs w fn_a2b where
  ok := { nd := by decide +kernel, loc := by decide +kernel, kind := by kernel_rfl, dbg := by decide +kernel, gl := by kernel_rfl, bn := by kernel_rfl, en := fun _ _ => ⟨rfl, rfl, by kernel_rfl, by kernel_rfl⟩ }
  at_ := by kernel_rfl
  cd := by kernel_rfl
  co := by kernel_rfl
  cell := by kernel_rfl
  mk_ := rfl
@[reducible] noncomputable def fn_r_pack : Fn := { addr := 288, names := [Str.ofString "self", Str.ofString "arg", Str.ofString "number_of_padding_bytes"], fd := fdAt 288 }
theorem r_pack_is (w : World) : FnIs w fn_r_pack where
  ok := { nd := by decide +kernel, loc := by decide +kernel, kind := by kernel_rfl, dbg := by decide +kernel, gl := by kernel_rfl, bn := by kernel_rfl, en := fun _ _ => ⟨rfl, rfl, by kernel_rfl, by kernel_rfl⟩ }
  at_ := by kernel_rfl
  cd := by kernel_rfl
  co := by kernel_rfl
  cell := by kernel_rfl
  mk_ := rfl
@[reducible] noncomputable def fn_r_unpack : Fn := { addr := 295, names := [Str.ofString "self", Str.ofString "bits", Str.ofString "rest"], fd := fdAt 295 }
theorem r_unpack_is (w : World) : FnIs w fn_r_unpack where
  ok := { nd := by decide +kernel, loc := by decide +kernel, kind := by kernel_rfl, dbg := by decide +kernel, gl := by kernel_rfl, bn := by kernel_rfl, en := fun _ _ => ⟨rfl, rfl, by kernel_rfl, by kernel_rfl⟩ }
  at_ := by kernel_rfl
  cd := by kernel_rfl
  co := by kernel_rfl
  cell := by kernel_rfl
  mk_ := rfl
@[reducible] noncomputable def fn_zp_pack : Fn := { addr := 326, names := [Str.ofString "self"], fd := fdAt 326 }
theorem zp_pack_is (w : World) : FnIs w fn_zp_pack where
  ok := { nd := by decide +kernel, loc := by decide +kernel, kind := by kernel_rfl, dbg := by decide +kernel, gl := by kernel_rfl, bn := by kernel_rfl, en := fun _ _ => ⟨rfl, rfl, by kernel_rfl, by kernel_rfl⟩ }
  at_ := by kernel_rfl
  cd := by kernel_rfl
  co := by kernel_rfl
  cell := by kernel_rfl
  mk_ := rfl
@[reducible] noncomputable def fn_op_pack : Fn := { addr := 345, names := [Str.ofString "self"], fd := fdAt 345 }
theorem op_pack_is (w : World) : FnIs w fn_op_pack where
  ok := { nd := by decide +kernel, loc := by decide +kernel, kind := by kernel_rfl, dbg := by decide +kernel, gl := by kernel_rfl, bn := by kernel_rfl, en := fun _ _ => ⟨rfl, rfl, by kernel_rfl, by kernel_rfl⟩ }
  at_ := by kernel_rfl
  cd := by kernel_rfl
  co := by kernel_rfl
  cell := by kernel_rfl
  mk_ := rfl
@[reducible] noncomputable def fn_t_init : Fn := { addr := 366, names := [Str.ofString "self", Str.ofString "size", Str.ofString "name", Str.ofString "encoding", Str.ofString "errors"], fd := fdAt 366 }
theorem t_init_is (w : World) : FnIs w fn_t_init where
  ok := { nd := by decide +kernel, loc := by decide +kernel, kind := by kernel_rfl, dbg := by decide +kernel, gl := by kernel_rfl, bn := by kernel_rfl, en := fun _ _ => ⟨rfl, rfl, by kernel_rfl, by kernel_rfl⟩ }
  at_ := by kernel_rfl
  cd := by kernel_rfl
  co := by kernel_rfl
  cell := by kernel_rfl
  mk_ := rfl
@[reducible] noncomputable def fn_t_pack : Fn := { addr := 373, names := [Str.ofString "self", Str.ofString "arg", Str.ofString "encoded", Str.ofString "number_of_padding_bytes"], fd := fdAt 373 }
theorem t_pack_is (w : World) : FnIs w fn_t_pack where
  ok := { nd := by decide +kernel, loc := by decide +kernel, kind := by kernel_rfl, dbg := by decide +kernel, gl := by kernel_rfl, bn := by kernel_rfl, en := fun _ _ => ⟨rfl, rfl, by kernel_rfl, by kernel_rfl⟩ }
  at_ := by kernel_rfl
  cd := by kernel_rfl
  co := by kernel_rfl
  cell := by kernel_rfl
  mk_ := rfl
@[reducible] noncomputable def fn_t_unpack : Fn := { addr := 380, names := [Str.ofString "self", Str.ofString "bits", Str.ofString "packed"], fd := fdAt 380 }
theorem t_unpack_is (w : World) : FnIs w fn_t_unpack where
  ok := { nd := by decide +kernel, loc := by decide +kernel, kind := by kernel_rfl, dbg := by decide +kernel, gl := by kernel_rfl, bn := by kernel_rfl, en := fun _ _ => ⟨rfl, rfl, by kernel_rfl, by kernel_rfl⟩ }
  at_ := by kernel_rfl
  cd := by kernel_rfl
  co := by kernel_rfl
  cell := by kernel_rfl
  mk_ := rfl
@[reducible] noncomputable def fn_parse : Fn := { addr := 390, names := [Str.ofString "fmt", Str.ofString "names", Str.ofString "text_encoding", Str.ofString "text_errors", Str.ofString "byte_order", Str.ofString "parsed_infos", Str.ofString "info", Str.ofString "infos", Str.ofString "endianness", Str.ofString "i", Str.ofString "parsed_info", Str.ofString "type_", Str.ofString "size", Str.ofString "name"], fd := fdAt 390 }
theorem parse_is (w : World) : FnIs w fn_parse where
  ok := { nd := by decide +kernel, loc := by decide +kernel, kind := by kernel_rfl, dbg := by decide +kernel, gl := by kernel_rfl, bn := by kernel_rfl, en := fun _ _ => ⟨rfl, rfl, by kernel_rfl, by kernel_rfl⟩ }
  at_ := by kernel_rfl
  cd := by kernel_rfl
  co := by kernel_rfl
  cell := by kernel_rfl
  mk_ := rfl
@[reducible] noncomputable def fn_packba : Fn := { addr := 397, names := [Str.ofString "size", Str.ofString "arg"], fd := fdAt 397 }
theorem packba_is (w : World) : FnIs w fn_packba where
  ok := { nd := by decide +kernel, loc := by decide +kernel, kind := by kernel_rfl, dbg := by decide +kernel, gl := by kernel_rfl, bn := by kernel_rfl, en := fun _ _ => ⟨rfl, rfl, by kernel_rfl, by kernel_rfl⟩ }
  at_ := by kernel_rfl
  cd := by kernel_rfl
  co := by kernel_rfl
  cell := by kernel_rfl
  mk_ := rfl
@[reducible] noncomputable def fn_unpackba : Fn := { addr := 404, names := [Str.ofString "size", Str.ofString "bits", Str.ofString "rest"], fd := fdAt 404 }
theorem unpackba_is (w : World) : FnIs w fn_unpackba where
  ok := { nd := by decide +kernel, loc := by decide +kernel, kind := by kernel_rfl, dbg := by decide +kernel, gl := by kernel_rfl, bn := by kernel_rfl, en := fun _ _ => ⟨rfl, rfl, by kernel_rfl, by kernel_rfl⟩ }
  at_ := by kernel_rfl
  cd := by kernel_rfl
  co := by kernel_rfl
  cell := by kernel_rfl
  mk_ := rfl
@[reducible] noncomputable def fn_c_init : Fn := { addr := 417, names := [Str.ofString "self", Str.ofString "fmt", Str.ofString "names", Str.ofString "text_encoding", Str.ofString "text_errors", Str.ofString "infos", Str.ofString "byte_order"], fd := fdAt 417 }
theorem c_init_is (w : World) : FnIs w fn_c_init where
  ok := { nd := by decide +kernel, loc := by decide +kernel, kind := by kernel_rfl, dbg := by decide +kernel, gl := by kernel_rfl, bn := by kernel_rfl, en := fun _ _ => ⟨rfl, rfl, by kernel_rfl, by kernel_rfl⟩ }
  at_ := by kernel_rfl
  cd := by kernel_rfl
  co := by kernel_rfl
  cell := by kernel_rfl
  mk_ := rfl
@[reducible] noncomputable def fn_packval : Fn := { addr := 424, names := [Str.ofString "self", Str.ofString "info", Str.ofString "value", Str.ofString "bits", Str.ofString "value_bits", Str.ofString "aligned_offset"], fd := fdAt 424 }
theorem packval_is (w : World) : FnIs w fn_packval where
  ok := { nd := by decide +kernel, loc := by decide +kernel, kind := by kernel_rfl, dbg := by decide +kernel, gl := by kernel_rfl, bn := by kernel_rfl, en := fun _ _ => ⟨rfl, rfl, by kernel_rfl, by kernel_rfl⟩ }
  at_ := by kernel_rfl
  cd := by kernel_rfl
  co := by kernel_rfl
  cell := by kernel_rfl
  mk_ := rfl
@[reducible] noncomputable def fn_packany : Fn := { addr := 431, names := [Str.ofString "self", Str.ofString "values", Str.ofString "bits", Str.ofString "info", Str.ofString "tail"], fd := fdAt 431 }
theorem packany_is (w : World) : FnIs w fn_packany where
  ok := { nd := by decide +kernel, loc := by decide +kernel, kind := by kernel_rfl, dbg := by decide +kernel, gl := by kernel_rfl, bn := by kernel_rfl, en := fun _ _ => ⟨rfl, rfl, by kernel_rfl, by kernel_rfl⟩ }
  at_ := by kernel_rfl
  cd := by kernel_rfl
  co := by kernel_rfl
  cell := by kernel_rfl
  mk_ := rfl
@[reducible] noncomputable def fn_upfa : Fn := { addr := 438, names := [Str.ofString "self", Str.ofString "data", Str.ofString "offset", Str.ofString "allow_truncated", Str.ofString "bits", Str.ofString "info", Str.ofString "value_bits", Str.ofString "value_bits_tmp", Str.ofString "aligned_offset"], fd := fdAt 438 }
theorem upfa_is (w : World) : FnIs w fn_upfa where
  ok := { nd := by decide +kernel, loc := by decide +kernel, kind := by kernel_rfl, dbg := by decide +kernel, gl := by kernel_rfl, bn := by kernel_rfl, en := fun _ _ => ⟨rfl, rfl, by kernel_rfl, by kernel_rfl⟩ }
  at_ := by kernel_rfl
  cd := by kernel_rfl
  co := by kernel_rfl
  cell := by kernel_rfl
  mk_ := rfl
@[reducible] noncomputable def fn_pia : Fn := { addr := 445, names := [Str.ofString "self", Str.ofString "buf", Str.ofString "offset", Str.ofString "data", Str.ofString "kwargs", Str.ofString "fill_padding", Str.ofString "buf_bits", Str.ofString "bits", Str.ofString "info"], fd := fdAt 445 }
theorem pia_is (w : World) : FnIs w fn_pia where
  ok := { nd := by decide +kernel, loc := by decide +kernel, kind := by kernel_rfl, dbg := by decide +kernel, gl := by kernel_rfl, bn := by kernel_rfl, en := fun _ _ => ⟨rfl, rfl, by kernel_rfl, by kernel_rfl⟩ }
  at_ := by kernel_rfl
  cd := by kernel_rfl
  co := by kernel_rfl
  cell := by kernel_rfl
  mk_ := rfl
@[reducible] noncomputable def fn_c_calc : Fn := { addr := 452, names := [Str.ofString "self"], fd := fdAt 452 }
theorem c_calc_is (w : World) : FnIs w fn_c_calc where
  ok := { nd := by decide +kernel, loc := by decide +kernel, kind := by kernel_rfl, dbg := by decide +kernel, gl := by kernel_rfl, bn := by kernel_rfl, en := fun _ _ => ⟨rfl, rfl, by kernel_rfl, by kernel_rfl⟩ }
  at_ := by kernel_rfl
  cd := by kernel_rfl
  co := by kernel_rfl
  cell := by kernel_rfl
  mk_ := rfl
@[reducible] noncomputable def fn_cf_init : Fn := { addr := 476, names := [Str.ofString "self", Str.ofString "fmt", Str.ofString "text_encoding", Str.ofString "text_errors", Str.ofString "info"], fd := fdAt 476 }
theorem cf_init_is (w : World) : FnIs w fn_cf_init where
  ok := { nd := by decide +kernel, loc := by decide +kernel, kind := by kernel_rfl, dbg := by decide +kernel, gl := by kernel_rfl, bn := by kernel_rfl, en := fun _ _ => ⟨rfl, rfl, by kernel_rfl, by kernel_rfl⟩ }
  at_ := by kernel_rfl
  cd := by kernel_rfl
  co := by kernel_rfl
  cell := by kernel_rfl
  mk_ := rfl
@[reducible] noncomputable def fn_cf_pack : Fn := { addr := 483, names := [Str.ofString "self", Str.ofString "args"], fd := fdAt 483 }
theorem cf_pack_is (w : World) : FnIs w fn_cf_pack where
  ok := { nd := by decide +kernel, loc := by decide +kernel, kind := by kernel_rfl, dbg := by decide +kernel, gl := by kernel_rfl, bn := by kernel_rfl, en := fun _ _ => ⟨rfl, rfl, by kernel_rfl, by kernel_rfl⟩ }
  at_ := by kernel_rfl
  cd := by kernel_rfl
  co := by kernel_rfl
  cell := by kernel_rfl
  mk_ := rfl
@[reducible] noncomputable def fn_cf_unpack : Fn := { addr := 491, names := [Str.ofString "self", Str.ofString "data", Str.ofString "allow_truncated"], fd := fdAt 491 }
theorem cf_unpack_is (w : World) : FnIs w fn_cf_unpack where
  ok := { nd := by decide +kernel, loc := by decide +kernel, kind := by kernel_rfl, dbg := by decide +kernel, gl := by kernel_rfl, bn := by kernel_rfl, en := fun _ _ => ⟨rfl, rfl, by kernel_rfl, by kernel_rfl⟩ }
  at_ := by kernel_rfl
  cd := by kernel_rfl
  co := by kernel_rfl
  cell := by kernel_rfl
  mk_ := rfl
@[reducible] noncomputable def fn_cf_pi : Fn := { addr := 498, names := [Str.ofString "self", Str.ofString "buf", Str.ofString "offset", Str.ofString "args", Str.ofString "kwargs"], fd := fdAt 498 }
theorem cf_pi_is (w : World) : FnIs w fn_cf_pi where
  ok := { nd := by decide +kernel, loc := by decide +kernel, kind := by kernel_rfl, dbg := by decide +kernel, gl := by kernel_rfl, bn := by kernel_rfl, en := fun _ _ => ⟨rfl, rfl, by kernel_rfl, by kernel_rfl⟩ }
  at_ := by kernel_rfl
  cd := by kernel_rfl
  co := by kernel_rfl
  cell := by kernel_rfl
  mk_ := rfl
@[reducible] noncomputable def fn_cf_uf : Fn := { addr := 504, names := [Str.ofString "self", Str.ofString "data", Str.ofString "offset", Str.ofString "allow_truncated"], fd := fdAt 504 }
theorem cf_uf_is (w : World) : FnIs w fn_cf_uf where
  ok := { nd := by decide +kernel, loc := by decide +kernel, kind := by kernel_rfl, dbg := by decide +kernel, gl := by kernel_rfl, bn := by kernel_rfl, en := fun _ _ => ⟨rfl, rfl, by kernel_rfl, by kernel_rfl⟩ }
  at_ := by kernel_rfl
  cd := by kernel_rfl
  co := by kernel_rfl
  cell := by kernel_rfl
  mk_ := rfl
@[reducible] noncomputable def fn_m_pack : Fn := { addr := 516, names := [Str.ofString "fmt", Str.ofString "args"], fd := fdAt 516 }
theorem m_pack_is (w : World) : FnIs w fn_m_pack where
  ok := { nd := by decide +kernel, loc := by decide +kernel, kind := by kernel_rfl, dbg := by decide +kernel, gl := by kernel_rfl, bn := by kernel_rfl, en := fun _ _ => ⟨rfl, rfl, by kernel_rfl, by kernel_rfl⟩ }
  at_ := by kernel_rfl
  cd := by kernel_rfl
  co := by kernel_rfl
  cell := by kernel_rfl
  mk_ := rfl
@[reducible] noncomputable def fn_m_unpack : Fn := { addr := 524, names := [Str.ofString "fmt", Str.ofString "data", Str.ofString "allow_truncated", Str.ofString "text_encoding", Str.ofString "text_errors"], fd := fdAt 524 }
theorem m_unpack_is (w : World) : FnIs w fn_m_unpack where
  ok := { nd := by decide +kernel, loc := by decide +kernel, kind := by kernel_rfl, dbg := by decide +kernel, gl := by kernel_rfl, bn := by kernel_rfl, en := fun _ _ => ⟨rfl, rfl, by kernel_rfl, by kernel_rfl⟩ }
  at_ := by kernel_rfl
  cd := by kernel_rfl
  co := by kernel_rfl
  cell := by kernel_rfl
  mk_ := rfl
@[reducible] noncomputable def fn_m_pi : Fn := { addr := 531, names := [Str.ofString "fmt", Str.ofString "buf", Str.ofString "offset", Str.ofString "args", Str.ofString "kwargs"], fd := fdAt 531 }
theorem m_pi_is (w : World) : FnIs w fn_m_pi where
  ok := { nd := by decide +kernel, loc := by decide +kernel, kind := by kernel_rfl, dbg := by decide +kernel, gl := by kernel_rfl, bn := by kernel_rfl, en := fun _ _ => ⟨rfl, rfl, by kernel_rfl, by kernel_rfl⟩ }
  at_ := by kernel_rfl
  cd := by kernel_rfl
  co := by kernel_rfl
  cell := by kernel_rfl
  mk_ := rfl
@[reducible] noncomputable def fn_m_uf : Fn := { addr := 539, names := [Str.ofString "fmt", Str.ofString "data", Str.ofString "offset", Str.ofString "allow_truncated", Str.ofString "text_encoding", Str.ofString "text_errors"], fd := fdAt 539 }
theorem m_uf_is (w : World) : FnIs w fn_m_uf where
  ok := { nd := by decide +kernel, loc := by decide +kernel, kind := by kernel_rfl, dbg := by decide +kernel, gl := by kernel_rfl, bn := by kernel_rfl, en := fun _ _ => ⟨rfl, rfl, by kernel_rfl, by kernel_rfl⟩ }
  at_ := by kernel_rfl
  cd := by kernel_rfl
  co := by kernel_rfl
  cell := by kernel_rfl
  mk_ := rfl
@[reducible] noncomputable def fn_m_calc : Fn := { addr := 546, names := [Str.ofString "fmt"], fd := fdAt 546 }
theorem m_calc_is (w : World) : FnIs w fn_m_calc where
  ok := { nd := by decide +kernel, loc := by decide +kernel, kind := by kernel_rfl, dbg := by decide +kernel, gl := by kernel_rfl, bn := by kernel_rfl, en := fun _ _ => ⟨rfl, rfl, by kernel_rfl, by kernel_rfl⟩ }
  at_ := by kernel_rfl
  cd := by kernel_rfl
  co := by kernel_rfl
  cell := by kernel_rfl
  mk_ := rfl
@[reducible] noncomputable def fn_law : Fn := { addr := 598, names := [Str.ofString "script", Str.ofString "few", Str.ofString "box", Str.ofString "low_first", Str.ofString "tail", Str.ofString "pieces", Str.ofString "plan", Str.ofString "span", Str.ofString "_piece", Str.ofString "fmt", Str.ofString "mine", Str.ofString "place", Str.ofString "k", Str.ofString "kind", Str.ofString "sign", Str.ofString "order", Str.ofString "wide", Str.ofString "size", Str.ofString "number", Str.ofString "value", Str.ofString "back", Str.ofString "many", Str.ofString "count", Str.ofString "have", Str.ofString "at", Str.ofString "group", Str.ofString "want", Str.ofString "piece", Str.ofString "joined", Str.ofString "got", Str.ofString "buf", Str.ofString "start", Str.ofString "way", Str.ofString "summed", Str.ofString "parts", Str.ofString "backs", Str.ofString "_cut", Str.ofString "data", Str.ofString "rest", Str.ofString "groups", Str.ofString "whole"], fd := fdAt 598 }
theorem law_is (w : World) : FnIs w fn_law where
  ok := { nd := by decide +kernel, loc := by decide +kernel, kind := by kernel_rfl, dbg := by decide +kernel, gl := by kernel_rfl, bn := by kernel_rfl, en := fun _ _ => ⟨rfl, rfl, by kernel_rfl, by kernel_rfl⟩ }
  at_ := by kernel_rfl
  cd := by kernel_rfl
  co := by kernel_rfl
  cell := by kernel_rfl
  mk_ := rfl
-- part F1
-- a name's place
local macro_rules | `(tactic| tb_start) => `(tactic| with_reducible first | apply Loc.z | (apply Loc.s; tb_start) | apply SetL.z | (apply SetL.s; tb_start))
-- one step of the walk
local macro_rules | `(tactic| ktn_call 1 1) => `(tactic| with_reducible first
  | (apply w_Name; assumption; tb_start)
  | (guard_target = W _ _ (PySem.eval (PySem.Expr.Name _ _) _) _ _ _; refine w_Name_builtin (by assumption) (by kernel_rfl) (by kernel_rfl) (by boot_fast) (by decide) ?_)
  | (apply w_int; intro _)
  | apply w_BinOp
  | apply w_SubSlice
  | apply w_Subscript
  | (focus (apply w_MethodCall; rotate_left; kernel_rfl))
  | (focus (apply w_Call; rotate_left; kernel_rfl))
  | apply w_IfExp
  | (focus (apply w_Compare; rotate_left; kernel_rfl))
  | apply w_Unary
  | apply w_Tuple
  | apply w_List
  | apply w_bool
  | apply w_none
  | (apply w_bytes; intro _)
  | (apply w_strc; (first | apply sc0 | apply sc1 | apply sc2 | apply sc3 | apply sc4 | apply sc5 | apply sc6 | apply sc7 | apply sc8 | apply sc9 | apply sc10 | apply sc11 | apply sc12 | apply sc13 | apply sc14 | apply sc15 | apply sc16 | apply sc17 | apply sc18 | apply sc19 | apply sc20 | apply sc21 | apply sc22 | apply sc23 | apply sc24 | apply sc25 | apply sc26); intro _)
  | apply w_BoolOr
  | apply w_Bool1)
local macro_rules | `(tactic| ktn_call 1 2) => `(tactic| with_reducible first
  | (focus (apply w_let; assumption; rotate_left; kernel_rfl; kernel_rfl))
  | (apply w_aug; assumption; tb_start)
  | apply w_Return_some
  | (focus (apply w_AssignItem; rotate_left; kernel_rfl; kernel_rfl))
  | (focus (apply w_AssignTup; rotate_left; kernel_rfl; kernel_rfl))
  | (focus (apply w_For; rotate_left; (intro _; kernel_rfl))))
local macro_rules | `(tactic| ktn_call 1 6) => `(tactic| with_reducible first
  | (focus (apply w_cwA; rotate_left; kernel_rfl; kernel_rfl))
  | (focus (apply w_cwM; rotate_left; kernel_rfl; kernel_rfl))
  | apply w_cwA0
  | apply w_cwM0)
local macro_rules | `(tactic| ktn_call 1 3) => `(tactic| with_reducible first
  | (focus (apply w_isTrue_Compare; rotate_left; kernel_rfl))
  | apply w_isTrue_and_nil
  | apply w_isTrue_or_nil
  | apply w_isTrue_and
  | apply w_isTrue_or
  | apply w_isTrue_not
  | (focus (apply w_isTrue_plain; rotate_left; kernel_rfl)))
local macro_rules | `(tactic| ktn_call 1 8) => `(tactic| with_reducible first
  | apply w_truthy_bool
  | apply w_truthy_none
  | apply w_truthy_int)
local macro_rules | `(tactic| ktn_call 1 4) => `(tactic| with_reducible first
  | apply w_eq_int
  | apply w_ne_int
  | apply w_lt_int
  | apply w_le_int
  | apply w_gt_int
  | apply w_ge_int
  | apply w_eq_S
  | apply w_ne_S
  | apply w_in_S
  | apply w_notin_S)
local macro_rules | `(tactic| ktn_call 1 9) => `(tactic| with_reducible first
  | (apply kept_builtin)
  | (apply kept_type)
  | (apply kept_K; kernel_rfl))
local macro_rules | `(tactic| tb_rel) => `(tactic| with_reducible first
  | (guard_target = W _ _ (PySem.eval _ _) _ _ _; ktn_call 1 1)
  | (apply w_set; assumption; tb_start)
  | apply w_cons
  | apply seq_next
  | apply w_nil
  | apply seq_ret
  | (guard_target = W _ _ (PySem.exec _ _) _ _ _; ktn_call 1 2)
  | (apply And.intro; ktn_call 1 9)
  | (guard_target = W _ _ (PySem.call _ _ _) _ _ _; ktn_call 1 5)
  | (guard_target = W _ _ (PySem.callWith _ _ _ _ _) _ _ _; ktn_call 1 6)
  | apply w_part_none
  | apply w_part_some
  | (focus (apply w_args_cons; rotate_left; kernel_rfl))
  | apply w_args_nil
  | apply w_assign_Name
  | (focus (apply w_aio_cons; rotate_left; kernel_rfl))
  | apply w_aio_end
  | (apply w_add_int; intro _)
  | (apply w_sub_int; intro _)
  | (apply w_iadd_int; intro _)
  | (apply w_isub_int; intro _)
  | (apply w_neg_int; intro _)
  | (guard_target = W _ _ (PySem.isTrue _ _ _) _ _ _; ktn_call 1 3)
  | (guard_target = W _ _ (PySem.compareOp _ _ _) _ _ _; ktn_call 1 4)
  | (guard_target = W _ _ (PySem.truthy _) _ _ _; ktn_call 1 8)
  | (guard_target = W _ _ (PySem.getMethod _ _ _) _ _ _; ktn_call 1 7))
local macro_rules | `(tactic| walk_at "ww") => `(tactic| repeat tb_rel)
-- a name of the module
local macro_rules | `(tactic| ktf_call $t:term) => `(tactic| (refine w_Name_global (by assumption) (v := .ref $t) (by kernel_rfl) (by kernel_rfl) ?_))
-- SubP, Tk, membership, Has
local macro_rules | `(tactic| kcj_m) => `(tactic| with_reducible first | apply Tk.here | (apply Tk.there; kcj_m))
local macro_rules | `(tactic| kcf_m) => `(tactic| with_reducible first | apply SubP.rfl | apply SubP.nil | (apply SubP.take; kcj_m; kcf_m) | (apply SubP.skip; kcf_m))
local macro_rules | `(tactic| nest_cls) => `(tactic| with_reducible first | apply List.mem_cons_self | (apply List.mem_cons_of_mem; nest_cls))
local macro_rules | `(tactic| got_up) => `(tactic| with_reducible first | assumption | (apply Has.l; nest_cls) | (apply Has.o; assumption))
/-! the law's own arithmetic -/
theorem intv {i j : Int} {t : Tok} (h : i = j) : Value.int i t = Value.int j t := h ▸ rfl
noncomputable def turnGo : Nat → Nat → Nat → Nat
  | 0, out, _ => out
  | k + 1, out, n => turnGo k (out * 2 + n % 2) (n / 2)
theorem pow_lt_pow_two {i m : Nat} (h : i ≤ m) : 2 ^ i ≤ 2 ^ m := Nat.pow_le_pow_right (by decide) h
theorem turned_sp {w : World} {n size : Nat} {t u : Tok} (hs : size ≤ 1000) :
    Sp w 1 (call (.ref 560) [.int n t, .int size u]) [] (fun _ => True) (fun v P' => ∃ t, v = .int (turnGo size 0 n : Nat) t ∧ P' = []) NoX := by
  refine Sp.def (F := fn_turned) (n := 0) (vals := [.int n t, .int size u]) (turned_is w) rfl rfl (fun s A p => BindsTo.of_eq (by kernel_rfl)) (by show 2 ≤ 4; decide) (V₀ := [some (.int n t), some (.int size u), none, none]) rfl (fun C hw hn _ => ?_)
  have ok := (turned_is w).ok
  walk_at "ww"
  refine w_range1 fun a t1 t2 t3 => ?_
  refine w_iter_range (by omega) (by omega) (.inl (.head _)) fun it => ?_
  refine Loop.sub (H' := [(it, _)]) (by kcf_m) ?_
  refine loop_range (fun i V H => ∃ (o m : Nat), ∃ t1 t2 st, V = [some (.int (m : Nat) t1), some (.int size u), some (.int (o : Nat) t2), st] ∧ H = [] ∧ o < 2 ^ i ∧ turnGo (size - i) o m = turnGo size 0 n) ?_ ?_ ?_
  · exact ⟨0, n, _, _, none, rfl, rfl, by decide, rfl⟩
  · rintro i V H t3 hi ⟨o, m, t1, t2, st, rfl, rfl, ho, he⟩
    walk_at "ww"
    refine w_mul_int (m := i) (n := 2) (by omega) (by decide) (by omega) fun t4 => ?_
    walk_at "ww"
    refine w_mod_int (by decide) fun t5 => ?_
    walk_at "ww"
    refine w_div_int (m := 2) (by decide) (by decide) (by decide) fun t6 => ?_
    walk_at "ww"
    have e1 : ((o : Int) * 2 + (m : Int) % 2) = ((o * 2 + m % 2 : Nat) : Int) := by omega
    have e2 : (m : Int) / 2 = ((m / 2 : Nat) : Int) := by omega
    rw [e1, e2]
    refine ⟨[], .rfl, _, _, _, _, _, rfl, rfl, by rw [Nat.pow_succ]; omega, ?_⟩
    rw [← he, show size - i = (size - (i + 1)) + 1 by omega]
    rfl
  · rintro V H ⟨o, m, t1, t2, st, rfl, rfl, ho, he⟩
    walk_at "ww"
    rw [Nat.sub_self] at he
    exact ⟨_, by rw [← he]; rfl, rfl⟩

/-! putting bits into a number -/
noncomputable def putN (have_ total place size number : Nat) : Nat :=
  (have_ / (2 ^ (total - place - size) * 2 ^ size) * 2 ^ size + number) * 2 ^ (total - place - size) + have_ % 2 ^ (total - place - size)
theorem put_sp {w : World} {h total place size number : Nat} {t1 t2 t3 t4 t5 : Tok} (hs : place + size ≤ total) (ht : total ≤ 1000) (hh : h < 2 ^ total) (hn : number < 2 ^ size) :
    Sp w 1 (call (.ref 567) [.int h t1, .int total t2, .int place t3, .int size t4, .int number t5]) [] (fun _ => True) (fun v P' => ∃ t, v = .int (putN h total place size number : Nat) t ∧ P' = []) NoX := by
  refine Sp.def (F := fn_put) (n := 0) (vals := [.int h t1, .int total t2, .int place t3, .int size t4, .int number t5]) (put_is w) rfl rfl (fun s A p => BindsTo.of_eq (by kernel_rfl)) (by show 5 ≤ 7; decide)
    (V₀ := [some (.int h t1), some (.int total t2), some (.int place t3), some (.int size t4), some (.int number t5), none, none]) rfl (fun C hw hn' _ => ?_)
  have ok := (put_is w).ok
  obtain ⟨l, hl⟩ : ∃ l, l = total - place - size := ⟨_, rfl⟩
  have p1 : 0 < 2 ^ l := Nat.two_pow_pos _
  have p2 : 0 < 2 ^ size := Nat.two_pow_pos _
  have q1 : 2 ^ l * 2 ^ size = 2 ^ (l + size) := (Nat.pow_add 2 l size).symm
  have q2 : (2 ^ l * 2 ^ size) < 2 ^ 1001 := by rw [q1]; exact Nat.pow_lt_pow_right (by decide) (by omega)
  have q3 : h / 2 ^ (l + size) < 2 ^ place := by
    rw [Nat.div_lt_iff_lt_mul (Nat.two_pow_pos _), ← Nat.pow_add]
    exact Nat.lt_of_lt_of_le hh (pow_lt_pow_two (by omega))
  walk_at "ww"
  refine w_pow_int (n := l) (by omega) (by omega) (by decide) fun t6 => ?_
  walk_at "ww"
  refine w_pow_int (n := size) (by omega) rfl (by decide) fun t7 => ?_
  have c1 : ((2 : Int) ^ l) = ((2 ^ l : Nat) : Int) := by rw [Int.natCast_pow]; rfl
  have c2 : ((2 : Int) ^ size) = ((2 ^ size : Nat) : Int) := by rw [Int.natCast_pow]; rfl
  rw [c1, c2]
  refine w_mul_int (m := l + 1) (n := size + 1) (by rw [Int.natAbs_natCast, Nat.pow_succ]; omega) (by rw [Int.natAbs_natCast, Nat.pow_succ]; omega) (by omega) fun t8 => ?_
  rw [← Int.natCast_mul]
  refine w_div_int (m := 1001) (Int.ofNat_lt.mpr (Nat.mul_pos p1 p2)) (by rw [Int.natAbs_natCast]; exact q2) (by decide) fun t9 => ?_
  rw [← Int.natCast_ediv]
  walk_at "ww"
  refine w_pow_int (n := size) (by omega) rfl (by decide) fun t10 => ?_
  rw [c2]
  refine w_mul_int (m := place) (n := size + 1) (by rw [Int.natAbs_natCast, q1]; exact q3) (by rw [Int.natAbs_natCast, Nat.pow_succ]; omega) (by omega) fun t11 => ?_
  rw [← Int.natCast_mul]
  walk_at "ww"
  rw [← Int.natCast_add]
  refine w_mul_int (m := place + size) (n := l + 1) (by
    rw [Int.natAbs_natCast, q1, Nat.pow_add 2 place]
    have : (h / 2 ^ (l + size) + 1) * 2 ^ size ≤ 2 ^ place * 2 ^ size := Nat.mul_le_mul_right _ q3
    rw [Nat.add_mul] at this
    omega) (by rw [Int.natAbs_natCast, Nat.pow_succ]; omega) (by omega) fun t12 => ?_
  walk_at "ww"
  refine w_mod_int (by omega) fun t13 => ?_
  walk_at "ww"
  exact ⟨_, intv (by unfold putN; rw [← hl]; simp only [Int.natCast_add, Int.natCast_mul, Int.natCast_emod]), rfl⟩

/-! a draw -/
/-- the i-th value is the i-th int -/
noncomputable def IntL (vs : List Value) (ns : List Int) : Prop := vs.length = ns.length ∧ ∀ (i : Nat) n, ns[i]? = some n → ∃ t, vs[i]? = some (.int n t)
noncomputable def drawN (ns : List Int) (b : Nat) (limit : Int) : Int := (ns.getD (b % ns.length) 0 + ((b : Int) + 1) + ((b : Int) + 1) / 7) % limit
theorem draw_sp {w : World} {box few : Addr} {ob ofew : Obj} {fvs : List Value} {ns : List Int} {b : Nat} {tb : Tok} {limit : Int} {tl : Tok}
    (lb : LO ob [.ref few, .int b tb]) (lf : LO ofew fvs) (hi : IntL fvs ns) (hne : 0 < ns.length) (hns : ns.length < 2 ^ 60) (hl : 0 < limit) :
    Sp w 2 (call (.ref 553) [.ref box, .int limit tl]) [(box, ob), (few, ofew)] (fun _ => True)
      (fun v P' => ∃ t ob' t', v = .int (drawN ns b limit) t ∧ P' = [(box, ob'), (few, ofew)] ∧ LO ob' [.ref few, .int (b + 1) t']) NoX := by
  refine Sp.def (F := fn_draw) (n := 1) (vals := [.ref box, .int limit tl]) (draw_is w) rfl rfl (fun s A p => BindsTo.of_eq (by kernel_rfl)) (by show 2 ≤ 3; decide) (V₀ := [some (.ref box), some (.int limit tl), none]) rfl (fun C hw hn _ => ?_)
  have ok := (draw_is w).ok
  walk_at "ww"
  refine w_ilist (.inl (.head _)) lb (i := 1) rfl rfl (by decide) ?_
  walk_at "ww"
  refine w_setItem_list lb (i := 1) rfl (by show 1 < 2; decide) (by decide) (fun o' => .head) fun o' lb' => ?_
  walk_at "ww"
  refine w_ilist (.inl (.head _)) lb' (i := 0) rfl rfl (by decide) ?_
  walk_at "ww"
  refine w_ilist (.inl (.head _)) lb' (i := 1) rfl rfl (by decide) ?_
  walk_at "ww"
  refine w_len_list (.inl (.tail _ (.head _))) lf (by rw [hi.1]; omega) fun t8 => ?_
  refine w_mod_int (by rw [hi.1]; omega) fun t9 => ?_
  obtain ⟨tx, hx⟩ : ∃ t, fvs[b % ns.length]? = some (.int (ns.getD (b % ns.length) 0) t) := hi.2 _ _ (by
    rw [List.getD_eq_getElem?_getD, List.getElem?_eq_getElem (Nat.mod_lt _ hne)]; rfl)
  refine w_ilist (.inl (.tail _ (.head _))) lf (i := b % ns.length) (by rw [hi.1, Int.add_sub_cancel]; rfl) hx (by have := Nat.mod_lt b hne; omega) ?_
  walk_at "ww"
  refine w_ilist (.inl (.head _)) lb' (i := 1) rfl rfl (by decide) ?_
  walk_at "ww"
  refine w_ilist (.inl (.head _)) lb' (i := 1) rfl rfl (by decide) ?_
  walk_at "ww"
  refine w_div_int (m := 10) (by decide) (by decide) (by decide) fun t7 => ?_
  walk_at "ww"
  refine w_mod_int hl fun t9 => ?_
  walk_at "ww"
  exact ⟨_, _, _, rfl, rfl, lb'⟩

/-! values of the plan -/
inductive PV where
  | int (i : Int) | bool (b : Bool) | str (l : List Nat) | bytes (l : List UInt8) | none
noncomputable def PV.Is : PV → Value → Prop
  | .int i, v => ∃ t, v = .int i t
  | .bool b, v => v = .bool b
  | .str l, v => ∃ t, v = .str (S l) t
  | .bytes l, v => ∃ t, v = .bytes l.toArray t
  | .none, v => v = .none
structure G where
  kind : Nat
  little : Bool
  size : Nat
  num : Nat
  val : PV
  back : PV
noncomputable def ordCh (b : Bool) : Nat := if b then 60 else 62
structure GV (g : G) (vs : List Value) : Prop where
  ex : ∃ t1 t2 t3 t4 v b, vs = [.str (S [g.kind]) t1, .str (S [ordCh g.little]) t2, .int g.size t3, .int g.num t4, v, b] ∧ g.val.Is v ∧ g.back.Is b

theorem putN_lt {h total place size number : Nat} (hs : place + size ≤ total) (hh : h < 2 ^ total) (hn : number < 2 ^ size) : putN h total place size number < 2 ^ total := by
  unfold putN
  obtain ⟨l, hl⟩ : ∃ l, total = place + size + l := ⟨total - (place + size), by omega⟩
  have e : total - place - size = l := by omega
  rw [e, ← Nat.pow_add]
  have q3 : h / 2 ^ (l + size) < 2 ^ place := by
    rw [Nat.div_lt_iff_lt_mul (Nat.two_pow_pos _), ← Nat.pow_add, show place + (l + size) = total by omega]
    exact hh
  have q4 : h / 2 ^ (l + size) * 2 ^ size + number < 2 ^ (place + size) := by
    have : (h / 2 ^ (l + size) + 1) * 2 ^ size ≤ 2 ^ place * 2 ^ size := Nat.mul_le_mul_right _ q3
    rw [Nat.add_mul] at this
    rw [Nat.pow_add 2 place]
    omega
  have q5 : h % 2 ^ l < 2 ^ l := Nat.mod_lt _ (Nat.two_pow_pos _)
  have : (h / 2 ^ (l + size) * 2 ^ size + number + 1) * 2 ^ l ≤ 2 ^ (place + size) * 2 ^ l := Nat.mul_le_mul_right _ q4
  rw [Nat.add_mul, ← Nat.pow_add, ← hl] at this
  omega

/-- bits laid from the low end -/
noncomputable def lowGo : Nat → Nat → Nat → Nat → Nat → Nat → Nat
  | 0, h, _, _, _, _ => h
  | f + 1, h, total, place, left, number =>
    if left = 0 then h else
      lowGo f (putN h total place (min (8 - place % 8) left) (number % 2 ^ min (8 - place % 8) left)) total (place + min (8 - place % 8) left) (left - min (8 - place % 8) left) (number / 2 ^ min (8 - place % 8) left)
noncomputable def laidN (low : Bool) (h total place : Nat) (g : G) : Nat :=
  if (!low || decide (g.kind ∈ [114, 116])) = true then putN h total place g.size (if g.little then turnGo g.size 0 g.num else g.num)
  else lowGo g.size h total place g.size (if g.little then turnGo g.size 0 g.num else g.num)
theorem turnGo_lt : ∀ (k o n : Nat), turnGo k o n < (o + 1) * 2 ^ k
  | 0, o, n => by show o < _; omega
  | k + 1, o, n => by
    show turnGo k (o * 2 + n % 2) (n / 2) < _
    refine Nat.lt_of_lt_of_le (turnGo_lt k _ _) ?_
    rw [Nat.pow_succ, show (o + 1) * (2 ^ k * 2) = ((o + 1) * 2) * 2 ^ k by rw [Nat.mul_assoc, Nat.mul_comm (2 ^ k)]]
    exact Nat.mul_le_mul_right _ (by omega)
theorem turned_lt (k n : Nat) : turnGo k 0 n < 2 ^ k := by have := turnGo_lt k 0 n; rw [Nat.zero_add, Nat.one_mul] at this; exact this
theorem powC (n : Nat) : ((2 : Int) ^ n) = ((2 ^ n : Nat) : Int) := by rw [Int.natCast_pow]; rfl

theorem laid_sp {w : World} {h total place : Nat} {g : G} {ga : Addr} {gvs : List Value} {low : Bool} {t1 t2 t3 : Tok} (hs : place + g.size ≤ total) (ht : total ≤ 1000) (hh : h < 2 ^ total) (hn : g.num < 2 ^ g.size) (hg : GV g gvs) :
    Sp w 3 (call (.ref 574) [.int h t1, .int total t2, .int place t3, .ref ga, .bool low]) [] (fun hp => hp.get? ga = some (tupO gvs)) (fun v P' => ∃ t, v = .int (laidN low h total place g : Nat) t ∧ P' = []) NoX := by
  refine Sp.def (F := fn_laid) (n := 2) (vals := [.int h t1, .int total t2, .int place t3, .ref ga, .bool low]) (laid_is w) rfl rfl (fun s A p => BindsTo.of_eq (by kernel_rfl)) (by show 5 ≤ 8; decide)
    (V₀ := [some (.int h t1), some (.int total t2), some (.int place t3), some (.ref ga), some (.bool low), none, none, none]) rfl (fun C hw hn' hga => ?_)
  have ok := (laid_is w).ok
  obtain ⟨k1, k2, k3, k4, va, vb, rfl, hva, hvb⟩ := hg.ex
  have hG : Has C [] ga (tupO _) := .inr hga
  walk_at "ww"
  refine w_itup hG (i := 3) rfl rfl (by decide) ?_
  walk_at "ww"
  refine w_itup hG (i := 2) rfl rfl (by decide) ?_
  walk_at "ww"
  refine w_IfJ (fun V H => H = [] ∧ ∃ t, V = [some (.int h t1), some (.int total t2), some (.int place t3), some (.ref ga), some (.bool low), some (.int ((if g.little then turnGo g.size 0 g.num else g.num : Nat) : Int) t), some (.int g.size k3), none]) ?_ ?_
  · walk_at "ww"
    refine w_itup hG (i := 1) rfl rfl (by decide) ?_
    walk_at "ww"
    refine ⟨fun hc => ?_, fun hc => ?_⟩
    · have hl : g.little = true := by cases hlx : g.little <;> rw [hlx] at hc <;> first | rfl | exact absurd hc (by decide)
      walk_at "ww"
      ktf_call 560
      walk_at "ww"
      refine w_sp (P := []) (R := []) (turned_sp (by omega)) (by omega) (.refl _) (fun _ _ => trivial) ?_
      rintro v P' ⟨t, rfl, rfl⟩
      walk_at "ww"
      exact ⟨rfl, rfl, _, by rw [if_pos hl]⟩
    · have hl : g.little = false := by cases hlx : g.little <;> rw [hlx] at hc <;> first | rfl | exact absurd hc (by decide)
      walk_at "ww"
      refine ⟨rfl, rfl, _, by rw [hl]; rfl⟩
  · rintro V H ⟨rfl, t, rfl⟩
    have hnn : (if g.little then turnGo g.size 0 g.num else g.num) < 2 ^ g.size := by split; exact turned_lt _ _; exact hn
    have hlaid : laidN low h total place g = laidN low h total place g := rfl
    conv at hlaid => rhs; unfold laidN
    generalize (if g.little then turnGo g.size 0 g.num else g.num) = nn at hnn hlaid
    rw [hlaid]
    walk_at "ww"
    refine w_If ?_
    walk_at "ww"
    have thn : ∀ {tx : Tok} {Q : Flow → Vals → Led → Prop}, (∀ t, Q (.ret (.int (putN h total place g.size nn : Nat) t)) [some (.int h t1), some (.int total t2), some (.int place t3), some (.ref ga), some (.bool low), some (.int nn tx), some (.int g.size k3), none] []) → W C NoE (call (.ref 567) [.int h t1, .int total t2, .int place t3, .int g.size k3, .int nn tx]) [some (.int h t1), some (.int total t2), some (.int place t3), some (.ref ga), some (.bool low), some (.int nn tx), some (.int g.size k3), none] [] (fun v V H => Q (.ret v) V H) := fun {tx Q} hQ => by
      refine w_sp (P := []) (R := []) (put_sp hs ht hh hnn) (by omega) (.refl _) (fun _ _ => trivial) ?_
      rintro v P' ⟨t, rfl, rfl⟩
      exact hQ t
    refine ⟨fun hc => ⟨fun _ => ?_, fun h => nomatch h⟩, fun hc => ?_⟩
    · walk_at "ww"
      ktf_call 567
      walk_at "ww"
      refine thn fun t => ?_
      exact ⟨t, by rw [hc, Bool.true_or, if_pos rfl], rfl⟩
    · walk_at "ww"
      refine w_itup hG (i := 0) rfl rfl (by decide) ?_
      walk_at "ww"
      refine ⟨fun hc2 => ⟨fun _ => ?_, fun h => nomatch h⟩, fun hc2 => ?_⟩
      · walk_at "ww"
        ktf_call 567
        walk_at "ww"
        refine thn fun t => ?_
        exact ⟨t, by rw [hc, Bool.false_or, if_pos hc2], rfl⟩
      · walk_at "ww"
        refine ⟨(fun h => nomatch h), fun _ => ?_⟩
        walk_at "ww"
        rw [hc, hc2, Bool.false_or, if_neg (by decide)]
        refine w_While (fun m V H => H = [] ∧ ∃ (h' place' left number' : Nat), ∃ t1 t3 t4 t5 r, V = [some (.int (h' : Nat) t1), some (.int total t2), some (.int (place' : Nat) t3), some (.ref ga), some (.bool low), some (.int (number' : Nat) t4), some (.int (left : Nat) t5), r] ∧
          left ≤ m ∧ h' < 2 ^ total ∧ place' + left ≤ total ∧ number' < 2 ^ left ∧ lowGo m h' total place' left number' = lowGo g.size h total place g.size nn) (n := g.size) ⟨rfl, h, place, g.size, nn, _, _, _, _, _, rfl, Nat.le_refl _, hh, hs, hnn, rfl⟩ ?_
        rintro m V H ⟨rfl, h', place', left, number', t1, t3, t4, t5, r, rfl, hm, hh', hp', hn', he⟩
        walk_at "ww"
        refine ⟨fun hc => ?_, fun hc => ?_⟩
        · have hpos : 0 < left := by simpa using hc
          obtain ⟨m, rfl⟩ : ∃ m', m = m' + 1 := ⟨m - 1, by omega⟩
          walk_at "ww"
          refine w_mod_int (by decide) fun t6 => ?_
          walk_at "ww"
          refine w_min2 fun t7 => ?_
          obtain ⟨rm, hrm⟩ : ∃ rm, rm = min (8 - place' % 8) left := ⟨_, rfl⟩
          have e1 : min (8 - (place' : Int) % 8) (left : Int) = (rm : Int) := by omega
          rw [e1]
          have hr0 : 0 < rm := by omega
          have hrl : rm ≤ left := by omega
          walk_at "ww"
          ktf_call 567
          walk_at "ww"
          refine w_pow_int (n := rm) (by omega) rfl (by decide) fun t8 => ?_
          rw [powC]
          have hp0 : 0 < 2 ^ rm := Nat.two_pow_pos _
          refine w_mod_int (by omega) fun t9 => ?_
          rw [← Int.natCast_emod]
          walk_at "ww"
          refine w_sp (P := []) (R := []) (put_sp (by omega) ht hh' (Nat.mod_lt _ hp0)) (by omega) (.refl _) (fun _ _ => trivial) ?_
          rintro v P' ⟨t10, rfl, rfl⟩
          walk_at "ww"
          refine w_pow_int (n := rm) (by omega) rfl (by decide) fun t8 => ?_
          rw [powC]
          refine w_div_int (m := 9) (by omega) (by rw [Int.natAbs_natCast]; exact Nat.pow_lt_pow_right (by decide) (by omega)) (by decide) fun t11 => ?_
          rw [← Int.natCast_ediv]
          walk_at "ww"
          rw [← Int.natCast_add, show (left : Int) - (rm : Int) = ((left - rm : Nat) : Int) by omega]
          refine ⟨m, by omega, rfl, _, _, _, _, _, _, _, _, _, rfl, by omega, putN_lt (by omega) hh' (Nat.mod_lt _ hp0), by omega, ?_, ?_⟩
          · rw [Nat.div_lt_iff_lt_mul hp0, ← Nat.pow_add, show left - rm + rm = left by omega]; exact hn'
          · rw [← he]
            show _ = (if left = 0 then h' else _)
            rw [if_neg (by omega), ← hrm]
        · have hz : left = 0 := by have : ¬ (0 : Int) < left := by simpa using hc
                                   omega
          subst hz
          have hres : lowGo m h' total place' 0 number' = h' := by cases m with | zero => rfl | succ m => exact if_pos rfl
          walk_at "ww"
          exact ⟨_, intv (by rw [← he, hres]), rfl⟩
-- part F2
local macro_rules | `(tactic| ktn_call 1 7) => `(tactic| with_reducible first
  | (apply w_bytes_m; apply FB.slot_bytes_hex; apply FB.type_bytes_hex)
  | (apply w_str_m; apply F.slot_str_encode; apply F.type_str_encode)
  | (apply w_str_m; apply F.slot_str_isascii; apply F.type_str_isascii)
  | (apply w_str_m; apply F.slot_str_rstrip; apply F.type_str_rstrip)
  | (apply w_list_m; apply F.slot_list_append; apply F.type_list_append; got_up))
local macro_rules | `(tactic| ktn_call 1 3) => `(tactic| with_reducible first
  | (focus (apply w_isTrue_Compare2; rotate_left; kernel_rfl)))
local macro_rules | `(tactic| ktn_call 1 2) => `(tactic| with_reducible first
  | (focus (apply w_Expr; rotate_left; kernel_rfl; kernel_rfl)))
local macro_rules | `(tactic| ktn_call 1 4) => `(tactic| with_reducible first
  | apply w_is_type
  | apply w_isnot_type
  | apply w_is_self
  | apply w_is_none
  | apply w_isnot_none
  | apply w_eq_B
  | apply w_ne_B)
local macro_rules | `(tactic| ktn_call 1 5) => `(tactic| with_reducible first
  | apply w_typeof_bytes
  | apply w_typeof_str
  | apply w_typeof_int)
local macro_rules | `(tactic| tb_rel) => `(tactic| with_reducible first
  | apply w_dropV)
/-! binascii -/
theorem Pre.kin {w : World} {n : Nat} {P : Led} {pre : Heap → Prop} {A : Around} {s : Shared} (p : Pre w n P pre A s) : (KF w).In s.heap :=
  (p.base.keeps fun _ _ e => of_hideAll _ e).kin

/-- a bytearray, its bytes -/
structure BA (o : Obj) (bs : List UInt8) : Prop where
  cls : o.cls = .type "bytearray"
  data : ∃ n, o.data = .bytearray bs.toArray n
inductive Buf (h : Heap) (bs : List UInt8) : Value → Prop
  | bytes (t : Tok) : Buf h bs (.bytes bs.toArray t)
  | arr {a : Addr} {o : Obj} (ha : h.get? a = some o) (ho : BA o bs) : Buf h bs (.ref a)

theorem buffer_sp {w : World} {bs : List UInt8} {t : Tok} :
    Sp w 1 (call (.ref 225) [.bytes bs.toArray t]) [] (fun _ => True) (fun v P' => ∃ t, v = .bytes bs.toArray t ∧ P' = []) NoX := by
  refine Sp.def (F := fn_buffer) (n := 0) (vals := [_]) (buffer_is w) rfl rfl (fun s A p => BindsTo.of_eq (by kernel_rfl)) (by show 1 ≤ 2; decide) (V₀ := [some (.bytes bs.toArray t), none]) rfl (fun C hw hn hb => ?_)
  have ok := (buffer_is w).ok
  walk_at "ww"
  refine w_If ?_
  walk_at "ww"
  refine ⟨fun _ => ?_, (fun h => absurd h (by decide))⟩
  walk_at "ww"
  exact ⟨_, rfl, rfl⟩

theorem b2a_sp {w : World} {bs : List UInt8} {t : Tok} (hl : bs.length ≤ 100000) :
    Sp w 2 (call (.ref 234) [.bytes bs.toArray t]) [] (fun _ => True) (fun v P' => ∃ t, v = .bytes (hexB (hexDs bs)).toArray t ∧ P' = []) NoX := by
  refine Sp.def (F := fn_b2a) (n := 1) (vals := [.bytes bs.toArray t, .ref 226, .int 1 685]) (b2a_is w) rfl rfl (fun s A p => binds_K (T := 227) (o := tupO [.ref 226, .int 1 685]) p.kin rfl (by kernel_rfl) rfl rfl rfl) (by show 3 ≤ 4; decide) (V₀ := [some (.bytes bs.toArray t), some (.ref 226), some (.int 1 _), none]) rfl (fun C hw hn hb => ?_)
  have ok := (b2a_is w).ok
  walk_at "ww"
  ktf_call 225
  walk_at "ww"
  refine w_spz buffer_sp (by omega) (fun _ _ => trivial) (fun _ _ ⟨_, _, e⟩ => e) ?_
  rintro v P' ⟨t1, rfl, _⟩
  walk_at "ww"
  refine w_If ?_
  walk_at "ww"
  refine ⟨(fun h => absurd h (by decide)), fun _ => ?_⟩
  walk_at "ww"
  refine ⟨(fun h => absurd h (by decide)), fun _ => ?_⟩
  walk_at "ww"
  refine ⟨(fun h => absurd h (by decide)), fun _ => ?_⟩
  walk_at "ww"
  refine ⟨(fun h => nomatch h), fun _ => ?_⟩
  walk_at "ww"
  refine w_If ?_
  walk_at "ww"
  ktf_call 226
  walk_at "ww"
  refine ⟨fun _ => ?_, (fun h => nomatch h)⟩
  walk_at "ww"
  refine w_hexm (by omega) fun t2 => ?_
  walk_at "ww"
  refine w_enc_ascii ?_ ?_ fun t3 => ?_
  · intro x hx
    obtain ⟨d, hd, rfl⟩ := List.mem_map.mp hx
    exact (hex_ne d (hexDs_lt bs d hd)).2.2.2.2
  · rw [List.length_map, hexDs_len]; omega
  walk_at "ww"
  refine ⟨t3, ?_, rfl⟩
  show Value.bytes _ _ = Value.bytes _ _
  rw [List.map_map]; rfl

theorem hexval_sp {w : World} {d : Nat} {t : Tok} {c : Int} (hd : d < 16) (hc : c = (hexCh d : Nat)) :
    Sp w 1 (call (.ref 241) [.int c t]) [] (fun _ => True) (fun v P' => ∃ t, v = .int d t ∧ P' = []) NoX := by
  refine Sp.def (F := fn_hexval) (n := 0) (vals := [_]) (hexval_is w) rfl rfl (fun s A p => BindsTo.of_eq (by kernel_rfl)) (by show 1 ≤ 1; decide) (V₀ := [some (.int c t)]) rfl (fun C hw hn hb => ?_)
  have ok := (hexval_is w).ok
  walk_at "ww"
  refine w_If ?_
  walk_at "ww"
  unfold hexCh at hc
  by_cases h10 : d < 10
  · rw [if_pos h10] at hc
    refine ⟨fun _ => ?_, fun h => by have := of_decide_eq_false h; omega⟩
    walk_at "ww"
    refine ⟨fun _ => ?_, fun h => by have := of_decide_eq_false h; omega⟩
    walk_at "ww"
    exact ⟨_, intv (by omega), rfl⟩
  · rw [if_neg h10] at hc
    refine ⟨fun _ => ?_, fun h => by have := of_decide_eq_false h; omega⟩
    walk_at "ww"
    refine ⟨(fun h => by have := of_decide_eq_true h; omega), fun _ => ?_⟩
    walk_at "ww"
    refine w_If ?_
    walk_at "ww"
    refine ⟨fun _ => ?_, fun h => by have := of_decide_eq_false h; omega⟩
    walk_at "ww"
    refine ⟨(fun h => by have := of_decide_eq_true h; omega), fun _ => ?_⟩
    walk_at "ww"
    refine w_If ?_
    walk_at "ww"
    refine ⟨fun _ => ?_, fun h => by have := of_decide_eq_false h; omega⟩
    walk_at "ww"
    refine ⟨fun _ => ?_, fun h => by have := of_decide_eq_false h; omega⟩
    walk_at "ww"
    exact ⟨_, intv (by omega), rfl⟩

theorem asciibuf_sp {w : World} {l : List Nat} {t : Tok} (hl : ∀ x ∈ l, x < 128) (hs : l.length ≤ 1000000) :
    Sp w 1 (call (.ref 218) [.str (S l) t]) [] (fun _ => True) (fun v P' => ∃ t, v = .bytes (l.map (·.toUInt8)).toArray t ∧ P' = []) NoX := by
  refine Sp.def (F := fn_asciibuf) (n := 0) (vals := [_]) (asciibuf_is w) rfl rfl (fun s A p => BindsTo.of_eq (by kernel_rfl)) (by show 1 ≤ 2; decide) (V₀ := [some (.str (S l) t), none]) rfl (fun C hw hn hb => ?_)
  have ok := (asciibuf_is w).ok
  walk_at "ww"
  refine w_If ?_
  walk_at "ww"
  refine ⟨fun _ => ?_, (fun h => absurd h (by decide))⟩
  walk_at "ww"
  refine w_If ?_
  walk_at "ww"
  refine w_isascii hl ?_
  walk_at "ww"
  refine ⟨(fun h => nomatch h), fun _ => ?_⟩
  walk_at "ww"
  refine w_enc_ascii hl (by omega) fun t1 => ?_
  walk_at "ww"
  exact ⟨_, rfl, rfl⟩

theorem ints_snoc {vs : List Value} {ns : List Int} (h : IntsAre vs ns) (n : Int) (t : Tok) : IntsAre (vs ++ [.int n t]) (ns ++ [n]) := by
  induction h with
  | nil => exact .cons n t .nil
  | cons m u _ ih => exact .cons m u ih
theorem hexDs_get : ∀ (bs : List UInt8) (j : Nat) (b : UInt8), bs[j]? = some b → (hexDs bs)[2 * j]? = some (b.toNat / 16) ∧ (hexDs bs)[2 * j + 1]? = some (b.toNat % 16)
  | [], j, b, h => by cases h
  | x :: r, 0, b, h => by cases h; exact ⟨rfl, rfl⟩
  | x :: r, j + 1, b, h => by
    have := hexDs_get r j b (by simpa using h)
    show ((x.toNat / 16 :: x.toNat % 16 :: hexDs r)[2 * j + 2]? = _) ∧ ((x.toNat / 16 :: x.toNat % 16 :: hexDs r)[2 * j + 2 + 1]? = _)
    simpa using this

theorem a2b_sp {w : World} {bs : List UInt8} {t : Tok} (hl : bs.length ≤ 10000) :
    Sp w 2 (call (.ref 248) [.str (S ((hexDs bs).map hexCh)) t]) [] (fun _ => True) (fun v P' => ∃ t, v = .bytes bs.toArray t ∧ P' = []) NoX := by
  refine Sp.def (F := fn_a2b) (n := 1) (vals := [.str (S ((hexDs bs).map hexCh)) t]) (a2b_is w) rfl rfl (fun s A p => BindsTo.of_eq (by kernel_rfl)) (by show 1 ≤ 7; decide) (V₀ := [some (.str (S ((hexDs bs).map hexCh)) t), none, none, none, none, none, none]) rfl (fun C hw hn hb => W.shrink ?_)
  have ok := (a2b_is w).ok
  have hlen : (hexB (hexDs bs)).length = 2 * bs.length := by simp [hexB, hexDs_len]
  walk_at "ww"
  ktf_call 218
  walk_at "ww"
  refine w_spz (asciibuf_sp (fun x hx => ?_) (by rw [List.length_map, hexDs_len]; omega)) (by omega) (fun _ _ => trivial) (fun _ _ ⟨_, _, e⟩ => e) ?_
  · obtain ⟨d, hd, rfl⟩ := List.mem_map.mp hx
    exact (hex_ne d (hexDs_lt bs d hd)).2.2.2.2
  rintro v P' ⟨t1, rfl, _⟩
  have eB : ((hexDs bs).map hexCh).map (·.toUInt8) = hexB (hexDs bs) := by rw [List.map_map]; rfl
  rw [eB]
  walk_at "ww"
  refine w_len_B (by omega) fun t2 => ?_
  walk_at "ww"
  refine w_If ?_
  walk_at "ww"
  refine w_mod_int (by decide) fun t3 => ?_
  walk_at "ww"
  rw [hlen]
  refine ⟨(fun h => absurd h (by simp)), fun _ => ?_⟩
  walk_at "ww"
  refine w_newList (vs := []) (fun a => ?_) (line_le (by decide))
  walk_at "ww"
  refine w_While (fun m V H => ∃ (j n : Nat), ∃ vs t4 x y, V = [some (.str (S ((hexDs bs).map hexCh)) t), some (.bytes (hexB (hexDs bs)).toArray t1), some (.int ((2 * bs.length : Nat) : Int) t2), some (.ref a), some (.int ((2 * j : Nat) : Int) t4), x, y] ∧
    H = [(a, listO vs n)] ∧ IntsAre vs ((bs.take j).map fun b => (b.toNat : Int)) ∧ vs.length = j ∧ j + m = bs.length) (n := bs.length) ?_ ?_
  · exact ⟨0, 0, [], _, _, _, rfl, rfl, .nil, rfl, by omega⟩
  · rintro m V H ⟨j, n, vs, t4, x, y, rfl, rfl, hi, hv, hm⟩
    walk_at "ww"
    refine ⟨fun hc => ?_, fun hc => ?_⟩
    · have hj : j < bs.length := by have := of_decide_eq_true hc; omega
      obtain ⟨b, hb⟩ : ∃ b, bs[j]? = some b := ⟨_, List.getElem?_eq_getElem hj⟩
      obtain ⟨g1, g2⟩ := hexDs_get bs j b hb
      have hb256 := b.toNat_lt
      have g1' : (hexB (hexDs bs))[2 * j]? = some (hexCh (b.toNat / 16)).toUInt8 := by unfold hexB; rw [List.getElem?_map, g1]; rfl
      have g2' : (hexB (hexDs bs))[2 * j + 1]? = some (hexCh (b.toNat % 16)).toUInt8 := by unfold hexB; rw [List.getElem?_map, g2]; rfl
      have u8 : ∀ d, d < 16 → ((((hexCh d).toUInt8).toNat : Nat) : Int) = (hexCh d : Nat) := fun d hd => by
        have := (hex_ne d hd).2.2.2.2
        show ((hexCh d % 256 : Nat) : Int) = _
        omega
      walk_at "ww"
      ktf_call 241
      walk_at "ww"
      refine w_item_B (k := 2 * j) (by omega) rfl g1' fun t7 => ?_
      walk_at "ww"
      refine w_spz (hexval_sp (d := b.toNat / 16) (by omega) (u8 _ (by omega))) (by omega) (fun _ _ => trivial) (fun _ _ ⟨_, _, e⟩ => e) ?_
      rintro v P' ⟨t8, rfl, _⟩
      walk_at "ww"
      ktf_call 241
      walk_at "ww"
      refine w_item_B (k := 2 * j + 1) (by omega) (by omega) g2' fun t9 => ?_
      walk_at "ww"
      refine w_spz (hexval_sp (d := b.toNat % 16) (by omega) (u8 _ (by omega))) (by omega) (fun _ _ => trivial) (fun _ _ ⟨_, _, e⟩ => e) ?_
      rintro v P' ⟨t10, rfl, _⟩
      walk_at "ww"
      refine w_If ?_
      walk_at "ww"
      refine ⟨(fun h => by have := of_decide_eq_true h; omega), fun _ => ?_⟩
      walk_at "ww"
      refine ⟨(fun h => by have := of_decide_eq_true h; omega), fun _ => ?_⟩
      walk_at "ww"
      refine ⟨(fun h => nomatch h), fun _ => ?_⟩
      walk_at "ww"
      refine w_shl_int (n := 4) (by decide) rfl (by rw [Int.natAbs_natCast]; exact Nat.lt_of_lt_of_le (show b.toNat / 16 < 16 by omega) (by decide)) fun t11 => ?_
      walk_at "ww"
      refine w_append .head (by omega) ?_
      walk_at "ww"
      have e : ((b.toNat / 16 : Nat) : Int) * 2 ^ 4 + ((b.toNat % 16 : Nat) : Int) = (b.toNat : Int) := by omega
      rw [e, show ((2 * j : Nat) : Int) + 2 = ((2 * (j + 1) : Nat) : Int) by omega]
      refine ⟨m - 1, by omega, j + 1, n + 1, vs ++ [.int b.toNat _], _, _, _, rfl, rfl, ?_, by simp [hv], by omega⟩
      · rw [List.take_add_one, hb, List.map_append]
        exact ints_snoc hi _ _
    · have hj : j = bs.length := by have := of_decide_eq_false hc; omega
      subst hj
      rw [List.take_length] at hi
      walk_at "ww"
      refine w_bytes_list (.inl (.head _)) (LO.listO vs n) hi ?_ (by omega) fun t7 => ?_
      · intro n hn
        obtain ⟨b, _, rfl⟩ := List.mem_map.mp hn
        have := b.toNat_lt
        omega
      walk_at "ww"
      refine ⟨[], SubP.nil, t7, ?_, rfl⟩
      show Value.bytes _ _ = Value.bytes _ _
      congr 2
      rw [List.map_map]
      conv => rhs; rw [← List.map_id bs]
      refine List.map_congr_left fun b _ => ?_
      show (Int.toNat (b.toNat : Int)).toUInt8 = b
      rw [Int.toNat_natCast]
      exact UInt8.ofNat_toNat
-- part F3
/-! bits and bytes -/
theorem cutF {α : Type} {l : List α} {i : Int} {k : Nat} (h : i = k) : cut l (some i) none = l.drop k := by subst h; exact cut_from l k
theorem cutT {α : Type} {l : List α} {i : Int} {k : Nat} (h : i = k) : cut l none (some i) = l.take k := by subst h; exact cut_to l k
theorem cutM {α : Type} {l : List α} {i j : Int} {a b : Nat} (h : i = a) (k : j = b) : cut l (some i) (some j) = (l.drop a).take (b - a) := by subst h; subst k; exact cut_mid l a b

noncomputable def vB (bs : List UInt8) : Nat := foldD 16 (hexDs bs) 0
noncomputable def bitsB (bs : List UInt8) : List Bool := bitsN (8 * bs.length) (vB bs)
noncomputable def bytesN (n v : Nat) : List UInt8 := (digs 256 n v).map Nat.toUInt8
noncomputable def unB (bits : List Bool) : List UInt8 := bytesN ((bits.length + 7) / 8) (valb bits * 2 ^ (8 * ((bits.length + 7) / 8) - bits.length))
theorem hexDs_append (a b : List UInt8) : hexDs (a ++ b) = hexDs a ++ hexDs b := by simp [hexDs]
theorem foldD_acc16 (ds : List Nat) (a : Nat) : foldD 16 ds a = a * 16 ^ ds.length + foldD 16 ds 0 := by
  induction ds generalizing a with
  | nil => simp [foldD]
  | cons d r ih =>
    show foldD 16 r (a * 16 + d) = _ + foldD 16 r (0 * 16 + d)
    rw [ih, ih (0 * 16 + d), List.length_cons, Nat.pow_succ]
    rw [Nat.add_mul, Nat.add_mul, Nat.zero_mul, Nat.zero_add, Nat.mul_assoc, Nat.mul_comm 16, Nat.add_assoc]
theorem foldD_lt16 (ds : List Nat) (h : ∀ d ∈ ds, d < 16) : foldD 16 ds 0 < 16 ^ ds.length := by
  induction ds with
  | nil => decide
  | cons d r ih =>
    show foldD 16 r (0 * 16 + d) < _
    rw [foldD_acc16, List.length_cons, Nat.pow_succ]
    have h1 := ih fun x hx => h x (.tail _ hx)
    have h2 := h d (.head _)
    have h3 : (0 * 16 + d) * 16 ^ r.length ≤ 15 * 16 ^ r.length := Nat.mul_le_mul_right _ (by omega)
    omega
theorem pow16 (n : Nat) : 16 ^ (2 * n) = 2 ^ (8 * n) := by
  rw [show (16 : Nat) = 2 ^ 4 by decide, ← Nat.pow_mul]; congr 1; omega
theorem vB_lt (bs : List UInt8) : vB bs < 2 ^ (8 * bs.length) := by
  have := foldD_lt16 (hexDs bs) (hexDs_lt bs)
  rw [hexDs_len, pow16] at this; exact this
theorem bytesN_len (n v : Nat) : (bytesN n v).length = n := by simp [bytesN, digs_len]
theorem hexDs_bytesN : ∀ n v, hexDs (bytesN n v) = digs 16 (2 * n) v
  | 0, v => rfl
  | n + 1, v => by
    have e : bytesN (n + 1) v = bytesN n (v / 256) ++ [(v % 256).toUInt8] := by unfold bytesN; rw [digs, List.map_append]; rfl
    rw [e, hexDs_append, hexDs_bytesN n, show 2 * (n + 1) = 2 * n + 1 + 1 by omega, digs, digs, List.append_assoc, Nat.div_div_eq_div_mul]
    congr 1
    have : ((v % 256).toUInt8).toNat = v % 256 := by show v % 256 % 256 = _; omega
    show [_ / 16, _ % 16] = _
    rw [this]
    show [v % 256 / 16, v % 256 % 16] = [v / 16 % 16, v % 16]
    rw [show v % 256 / 16 = v / 16 % 16 by omega, show v % 256 % 16 = v % 16 by omega]
theorem vB_bytesN (n v : Nat) : vB (bytesN n v) = v % 2 ^ (8 * n) := by
  unfold vB; rw [hexDs_bytesN, foldD_digs (by decide), pow16]; omega
theorem bitsB_bytesN (n v : Nat) : bitsB (bytesN n v) = bitsN (8 * n) v := by
  unfold bitsB; rw [bytesN_len, vB_bytesN, bitsN_mod (Nat.le_refl _)]

theorem packba_sp {w : World} {bs : List UInt8} {size : Nat} {t u : Tok} (hl : bs.length ≤ 200) (hs : size ≤ 10000) :
    Sp w 3 (call (.ref 397) [.int size u, .bytes bs.toArray t]) [] (fun _ => True) (fun v P' => ∃ t, v = .str (S (chs ((bitsB bs).take size))) t ∧ P' = []) NoX := by
  refine Sp.def (F := fn_packba) (n := 2) (vals := [_, _]) (packba_is w) rfl rfl (fun s A p => BindsTo.of_eq (by kernel_rfl)) (by show 2 ≤ 2; decide) (V₀ := [some (.int size u), some (.bytes bs.toArray t)]) rfl (fun C hw hn hb => W.shrink ?_)
  have ok := (packba_is w).ok
  walk_at "ww"
  ktf_call 234
  walk_at "ww"
  refine w_spz (b2a_sp (by omega)) (by omega) (fun _ _ => trivial) (fun _ _ ⟨_, _, e⟩ => e) ?_
  rintro v P' ⟨t1, rfl, _⟩
  refine w_add_B (by simp [hexB, hexDs_len]; omega) fun t2 => ?_
  walk_at "ww"
  have e1 : [48, 49] ++ hexB (hexDs bs) = hexB (0 :: 1 :: hexDs bs) := rfl
  rw [e1]
  refine w_int16 (ds := 0 :: 1 :: hexDs bs) ?_ (by simp) (by simp) (by simp [hexDs_len]; omega) fun t3 => ?_
  · intro d hd
    rcases List.mem_cons.mp hd with rfl | hd
    · decide
    · rcases List.mem_cons.mp hd with rfl | hd
      · decide
      · exact hexDs_lt bs d hd
  walk_at "ww"
  refine w_bin (k := 8 * bs.length) (m := vB bs) ?_ (vB_lt bs) (by omega) fun t4 => ?_
  · have : foldD 16 (0 :: 1 :: hexDs bs) 0 = foldD 16 (hexDs bs) 1 := rfl
    rw [this, foldD_acc16, hexDs_len, pow16, Nat.one_mul]; rfl
  walk_at "ww"
  refine cut_str (.int _ _) (.int _ _) (by simp [chs_len, bitsN_len]; omega) fun t5 => ?_
  walk_at "ww"
  refine ⟨[], SubP.nil, t5, ?_, rfl⟩
  rw [cutM (i := 3) (j := (size : Int) + 3) (a := 3) (b := size + 3) rfl (by omega)]
  show Value.str (S (((chs (bitsB bs))).take (size + 3 - 3))) _ = _
  rw [Nat.add_sub_cancel, chs_take]

theorem valb_zeros (p : Nat) : valb (List.replicate p false) = 0 := by
  induction p with
  | zero => rfl
  | succ p ih =>
    rw [List.replicate_succ']; rw [valb_snoc, ih]; rfl
theorem unpackba_sp {w : World} {bits : List Bool} {size : Nat} {t u : Tok} (hl : bits.length = size) (hs : size ≤ 600) :
    Sp w 3 (call (.ref 404) [.int size u, .str (S (chs bits)) t]) [] (fun _ => True) (fun v P' => ∃ t, v = .bytes (unB bits).toArray t ∧ P' = []) NoX := by
  refine Sp.def (F := fn_unpackba) (n := 2) (vals := [_, _]) (unpackba_is w) rfl rfl (fun s A p => BindsTo.of_eq (by kernel_rfl)) (by show 2 ≤ 3; decide) (V₀ := [some (.int size u), some (.str (S (chs bits)) t), none]) rfl (fun C hw hn hb => W.shrink ?_)
  have ok := (unpackba_is w).ok
  obtain ⟨n, hn8⟩ : ∃ n, n = (size + 7) / 8 := ⟨_, rfl⟩
  walk_at "ww"
  refine w_mod_int (by decide) fun t1 => ?_
  walk_at "ww"
  refine w_IfJ (fun V H => H = [] ∧ ∃ t2 t3, V = [some (.int size u), some (.str (S (chs (bits ++ List.replicate (8 * n - size) false))) t2), t3]) ?_ ?_
  · walk_at "ww"
    refine ⟨fun hc => ?_, fun hc => ?_⟩
    · have h0 : 0 < (size : Int) % 8 := of_decide_eq_true hc
      walk_at "ww"
      have e : ((8 : Int) - (size : Int) % 8).toNat = 8 * n - size := by omega
      refine w_rmul_S (by decide) (by omega) (by rw [e]; simp; omega) fun t2 => ?_
      refine w_iadd_S (by simp [chs_len]; omega) fun t3 => ?_
      walk_at "ww"
      have e2 : (List.replicate (8 * n - size) [48]).flatten = chs (List.replicate (8 * n - size) false) := by
        generalize 8 * n - size = p
        induction p with
        | zero => rfl
        | succ p ih => rw [List.replicate_succ, List.flatten_cons, ih]; rfl
      rw [e, e2, ← chs_append]
      exact ⟨rfl, rfl, t3, _, rfl⟩
    · have h0 : ¬ 0 < (size : Int) % 8 := of_decide_eq_false hc
      walk_at "ww"
      rw [show 8 * n - size = 0 by omega, List.replicate_zero, List.append_nil]
      exact ⟨rfl, rfl, t, _, rfl⟩
  · rintro V H ⟨rfl, t2, t3, rfl⟩
    obtain ⟨pb, hpb⟩ : ∃ pb, pb = bits ++ List.replicate (8 * n - size) false := ⟨_, rfl⟩
    rw [← hpb]
    have hpl : pb.length = 8 * n := by rw [hpb, List.length_append, List.length_replicate, hl]; omega
    walk_at "ww"
    ktf_call 248
    walk_at "ww"
    refine w_add_S (by rw [chs_len, hpl]; simp; omega) fun t4 => ?_
    walk_at "ww"
    have e1 : [49, 48, 48, 48, 48, 48, 48, 48] ++ chs pb = chs ([true, false, false, false, false, false, false, false] ++ pb) := by rw [chs_append]; rfl
    rw [e1]
    refine w_int2 (by simp) (by simp [hpl]; omega) fun t5 => ?_
    walk_at "ww"
    refine w_hex (k := 2 * n) (m := valb pb) (by rw [valb_append, hpl, pow16]; rfl) (by rw [pow16, ← hpl]; exact valb_lt pb) (by omega) fun t6 => ?_
    walk_at "ww"
    refine cut_str (.int _ _) .none (by simp [digs_len]; omega) fun t7 => ?_
    rw [cutF (i := 4) (k := 4) rfl]
    have e3 : List.drop 4 ([48, 120, 56, 48] ++ List.map hexCh (digs 16 (2 * n) (valb pb))) = List.map hexCh (hexDs (bytesN n (valb pb))) := by
      rw [hexDs_bytesN]; rfl
    rw [e3]
    walk_at "ww"
    refine w_rstrip ?_ (by simp [hexDs_len, bytesN_len]; omega) fun t8 => ?_
    · intro c hc
      obtain ⟨d, hd, rfl⟩ := List.mem_map.mp (List.mem_of_getLast? hc)
      have h76 : ∀ d, d < 16 → hexCh d ≠ 76 := by decide
      have := h76 d (hexDs_lt _ d hd)
      simpa using this
    walk_at "ww"
    refine w_spz (a2b_sp (by rw [bytesN_len]; omega)) (by omega) (fun _ _ => trivial) (fun _ _ ⟨_, _, e⟩ => e) ?_
    rintro v P' ⟨t9, rfl, _⟩
    walk_at "ww"
    refine ⟨[], SubP.nil, t9, ?_, rfl⟩
    have e4 : bytesN n (valb pb) = unB bits := by
      unfold unB
      rw [hpb, valb_append, valb_zeros, List.length_replicate, Nat.add_zero, hl, ← hn8]
    rw [e4]
-- part F4
local macro_rules | `(tactic| ktn_call 1 2) => `(tactic| with_reducible first
  | (focus (apply w_AssignAttr; rotate_left; kernel_rfl; kernel_rfl)))
local macro_rules | `(tactic| ktn_call 1 1) => `(tactic| with_reducible first
  | (focus (apply w_Attr; rotate_left; kernel_rfl)))
/-! infos -/
noncomputable abbrev aSize : Str := Str.ofString "size"
noncomputable abbrev aName : Str := Str.ofString "name"
noncomputable abbrev aEnd : Str := Str.ofString "endianness"
noncomputable abbrev aMin : Str := Str.ofString "minimum"
noncomputable abbrev aMax : Str := Str.ofString "maximum"
noncomputable abbrev aEnc : Str := Str.ofString "encoding"
noncomputable abbrev aErr : Str := Str.ofString "errors"
noncomputable abbrev infoNames : List Str := [aSize, aName, aEnd, aMin, aMax, aEnc, aErr]
structure ClsOk (w : World) (Cc : Addr) (names : List Str) : Prop where
  hs : findIn (KF w) (.ref Cc) "__setattr__" = some (some (.builtin "object.__setattr__"))
  hp : plainOver (KF w) Cc = true
  hh : hasDictIn (KF w) Cc = true
  hg : ∀ x, plainGet (KF w) Cc x = true
  tk : ∀ x ∈ names, takerIn (KF w) Cc x = some none
  fi : ∀ x ∈ names, findIn (KF w) (.ref Cc) x = some none
theorem in_cons {α : Type} {P : α → Prop} {a : α} {l : List α} (h : P a) (k : ∀ x ∈ l, P x) : ∀ x ∈ a :: l, P x := fun x hx => by
  rcases List.mem_cons.mp hx with rfl | hx
  · exact h
  · exact k x hx
theorem in_nil {α : Type} {P : α → Prop} : ∀ x ∈ ([] : List α), P x := fun _ hx => nomatch hx
theorem s_ok (w : World) : ClsOk w 132 infoNames := ⟨by kernel_rfl, by kernel_rfl, by kernel_rfl, fun _ => by kernel_rfl, by repeat (first | exact in_nil | refine in_cons (by kernel_rfl) ?_), by repeat (first | exact in_nil | refine in_cons (by kernel_rfl) ?_)⟩
theorem u_ok (w : World) : ClsOk w 167 infoNames := ⟨by kernel_rfl, by kernel_rfl, by kernel_rfl, fun _ => by kernel_rfl, by repeat (first | exact in_nil | refine in_cons (by kernel_rfl) ?_), by repeat (first | exact in_nil | refine in_cons (by kernel_rfl) ?_)⟩
theorem b_ok (w : World) : ClsOk w 196 infoNames := ⟨by kernel_rfl, by kernel_rfl, by kernel_rfl, fun _ => by kernel_rfl, by repeat (first | exact in_nil | refine in_cons (by kernel_rfl) ?_), by repeat (first | exact in_nil | refine in_cons (by kernel_rfl) ?_)⟩
theorem r_ok (w : World) : ClsOk w 298 infoNames := ⟨by kernel_rfl, by kernel_rfl, by kernel_rfl, fun _ => by kernel_rfl, by repeat (first | exact in_nil | refine in_cons (by kernel_rfl) ?_), by repeat (first | exact in_nil | refine in_cons (by kernel_rfl) ?_)⟩
theorem zp_ok (w : World) : ClsOk w 329 infoNames := ⟨by kernel_rfl, by kernel_rfl, by kernel_rfl, fun _ => by kernel_rfl, by repeat (first | exact in_nil | refine in_cons (by kernel_rfl) ?_), by repeat (first | exact in_nil | refine in_cons (by kernel_rfl) ?_)⟩
theorem op_ok (w : World) : ClsOk w 348 infoNames := ⟨by kernel_rfl, by kernel_rfl, by kernel_rfl, fun _ => by kernel_rfl, by repeat (first | exact in_nil | refine in_cons (by kernel_rfl) ?_), by repeat (first | exact in_nil | refine in_cons (by kernel_rfl) ?_)⟩
theorem t_ok (w : World) : ClsOk w 383 infoNames := ⟨by kernel_rfl, by kernel_rfl, by kernel_rfl, fun _ => by kernel_rfl, by repeat (first | exact in_nil | refine in_cons (by kernel_rfl) ?_), by repeat (first | exact in_nil | refine in_cons (by kernel_rfl) ?_)⟩

theorem kv_le {kv : KV} (h : Nat.ble kv.length 900 = true) : kv.length ≤ 900 := Nat.le_of_ble_eq_true h
theorem info_init_sp {w : World} {x dx Cc : Addr} {sz nm : Value} (hc : ClsOk w Cc infoNames) :
    SpC w 1 (.ref 92) ⟨[.ref x, sz, nm], []⟩ [(x, instObj Cc dx), (dx, dictOf [] 0)] (fun _ => True) (fun v P' => v = .none ∧ ∃ od, P' = [(x, instObj Cc dx), (dx, od)] ∧ DO od [(aSize, sz), (aName, nm), (aEnd, .none)]) NoX := by
  refine SpC.def (F := fn_info_init) (n := 0) (vals := [.ref x, sz, nm]) (info_init_is w) rfl rfl (fun s A p => binds_K (T := 85) (o := tupO [.none]) p.kin rfl (by kernel_rfl) rfl rfl rfl) (by show 3 ≤ 3; decide) (V₀ := [some (.ref x), some sz, some nm]) rfl (fun C hw hn hb => ?_)
  have ok := (info_init_is w).ok
  subst hw
  have hD : DO (dictOf [] 0) [] := ⟨_, _, rfl, .nil⟩
  walk_at "ww"
  refine w_setOwn (.inl (.head _)) hD hc.hs hc.hp (hc.tk aSize (by simp)) hc.hh (kv_le (by kernel_rfl)) (fun o' => .tail .head) fun o1 hD1 => ?_
  walk_at "ww"
  refine w_setOwn (.inl (.head _)) hD1 hc.hs hc.hp (hc.tk aName (by simp)) hc.hh (kv_le (by kernel_rfl)) (fun o' => .tail .head) fun o2 hD2 => ?_
  walk_at "ww"
  refine w_setOwn (.inl (.head _)) hD2 hc.hs hc.hp (hc.tk aEnd (by simp)) hc.hh (kv_le (by kernel_rfl)) (fun o' => .tail .head) fun o3 hD3 => ?_
  walk_at "ww"
  refine ⟨rfl, o3, rfl, ?_⟩
  have e : kvPut aEnd .none (kvPut aName nm (kvPut aSize sz [])) = [(aSize, sz), (aName, nm), (aEnd, .none)] := by
    kernel_rfl
  exact e ▸ hD3
-- part F5
local macro_rules | `(tactic| ktn_call 1 5) => `(tactic| with_reducible first
  | apply w_int_int
  | (apply w_int_bool; intro _)
  | apply w_bool_int)
local macro_rules | `(tactic| ktn_call 1 7) => `(tactic| with_reducible first
  | (apply w_bytes_m; apply FB.slot_bytes_decode; apply FB.type_bytes_decode))
/-! packing and unpacking one value -/
noncomputable abbrev infoPre (x dx Cc : Addr) (od : Obj) : Heap → Prop := fun h => h.get? x = some (instObj Cc dx) ∧ h.get? dx = some od

theorem item_at {l : List Nat} {i : Nat} {c : Nat} (h : l[i]? = some c) : (seqIndex? (i : Int) l.length).bind (l[·]?) = some c := by
  have hl := (List.getElem?_eq_some_iff.mp h).1
  rw [seqIndex_of (by omega) (by omega), Int.toNat_natCast]
  exact h
theorem item_last {l : List Nat} {c : Nat} (h : l.getLast? = some c) : (seqIndex? (-1) l.length).bind (l[·]?) = some c := by
  have hl : l ≠ [] := by intro e; subst e; cases h
  have hp : 0 < l.length := List.length_pos_iff.mpr hl
  have e : seqIndex? (-1) l.length = some (l.length - 1) := by
    unfold seqIndex?
    simp only [show ((-1 : Int) < 0) = True from by simp, if_true]
    have : (decide (0 ≤ (-1 : Int) + l.length) && decide ((-1 : Int) + l.length < l.length)) = true := by simp; omega
    rw [this]
    simp
    omega
  rw [e, Option.bind_some, ← h, List.getLast?_eq_getElem?]
theorem u_pack_sp {w : World} {x dx Cc : Addr} {od : Obj} {kv : KV} {size n : Nat} {t t1 t2 : Tok} (hc : ClsOk w Cc infoNames) (hD : DO od kv) (hs : kvGet aSize kv = some (.int size t1)) (hm : kvGet aMax kv = some (.int ((2 ^ size - 1 : Nat) : Int) t2))
    (hz : size ≤ 1000) (hn : n < 2 ^ size) : Sp w 1 (call (.ref 157) [.ref x, .int n t]) [] (infoPre x dx Cc od) (fun v P' => ∃ t, v = .str (S (chs (bitsN size n))) t ∧ P' = []) NoX := by
  refine Sp.def (F := fn_u_pack) (n := 0) (vals := [_, _]) (u_pack_is w) rfl rfl (fun s A p => BindsTo.of_eq (by kernel_rfl)) (by show 2 ≤ 3; decide) (V₀ := [some (.ref x), some (.int n t), none]) rfl (fun C hw hn hb => W.shrink ?_)
  have ok := (u_pack_is w).ok
  subst hw
  walk_at "ww"
  refine w_If ?_
  walk_at "ww"
  refine ⟨(fun h => by have := of_decide_eq_true h; omega), fun _ => ?_⟩
  walk_at "ww"
  refine w_getOwn (.inr hb.1) (.inr hb.2) hD (hc.hg _) hc.hh (hc.fi aMax (by simp)) hm rfl ?_
  walk_at "ww"
  refine ⟨(fun h => by have := of_decide_eq_true h; omega), fun _ => ?_⟩
  walk_at "ww"
  refine ⟨(fun h => nomatch h), fun _ => ?_⟩
  walk_at "ww"
  refine w_getOwn (.inr hb.1) (.inr hb.2) hD (hc.hg _) hc.hh (hc.fi aSize (by simp)) hs rfl ?_
  walk_at "ww"
  refine w_shl_int (n := size) (by omega) rfl (by decide) fun t3 => ?_
  walk_at "ww"
  refine w_bin (k := size) (m := n) (by rw [powC]; omega) (by omega) (by omega) fun t4 => ?_
  walk_at "ww"
  refine cut_str (.int _ _) .none (by simp [chs_len, bitsN_len]; omega) fun t5 => ?_
  walk_at "ww"
  rw [cutF (i := 3) (k := 3) rfl]
  exact ⟨[], SubP.nil, t5, rfl, rfl⟩

theorem u_unpack_sp {w : World} {x : Value} {bits : List Bool} {t : Tok} (hne : bits ≠ []) (hl : bits.length ≤ 640) :
    Sp w 1 (call (.ref 164) [x, .str (S (chs bits)) t]) [] (fun _ => True) (fun v P' => ∃ t, v = .int (valb bits : Nat) t ∧ P' = []) NoX := by
  refine Sp.def (F := fn_u_unpack) (n := 0) (vals := [_, _]) (u_unpack_is w) rfl rfl (fun s A p => BindsTo.of_eq (by kernel_rfl)) (by show 2 ≤ 2; decide) (V₀ := [some x, some (.str (S (chs bits)) t)]) rfl (fun C hw hn hb => ?_)
  have ok := (u_unpack_is w).ok
  walk_at "ww"
  refine w_int2 hne hl fun t1 => ?_
  walk_at "ww"
  exact ⟨t1, rfl, rfl⟩

theorem s_pack_sp {w : World} {x dx Cc : Addr} {od : Obj} {kv : KV} {size : Nat} {i : Int} {t t1 t2 t3 : Tok} (hc : ClsOk w Cc infoNames) (hD : DO od kv) (hs : kvGet aSize kv = some (.int size t1)) (hmi : kvGet aMin kv = some (.int (-((2 ^ (size - 1) : Nat) : Int)) t3)) (hm : kvGet aMax kv = some (.int (((2 ^ (size - 1) : Nat) : Int) - 1) t2))
    (h1 : 1 ≤ size) (hz : size ≤ 1000) (hlo : -((2 ^ (size - 1) : Nat) : Int) ≤ i) (hhi : i < ((2 ^ (size - 1) : Nat) : Int)) : Sp w 1 (call (.ref 122) [.ref x, .int i t]) [] (infoPre x dx Cc od) (fun v P' => ∃ t, v = .str (S (chs (bitsN size (i % ((2 ^ size : Nat) : Int)).toNat))) t ∧ P' = []) NoX := by
  refine Sp.def (F := fn_s_pack) (n := 0) (vals := [_, _]) (s_pack_is w) rfl rfl (fun s A p => BindsTo.of_eq (by kernel_rfl)) (by show 2 ≤ 3; decide) (V₀ := [some (.ref x), some (.int i t), none]) rfl (fun C hw hn hb => W.shrink ?_)
  have ok := (s_pack_is w).ok
  subst hw
  have e2 : 2 ^ size = 2 ^ (size - 1) * 2 := by rw [← Nat.pow_succ]; congr 1; omega
  have p0 : 0 < 2 ^ (size - 1) := Nat.two_pow_pos _
  walk_at "ww"
  refine w_If ?_
  walk_at "ww"
  refine w_getOwn (.inr hb.1) (.inr hb.2) hD (hc.hg _) hc.hh (hc.fi aMin (by simp)) hmi rfl ?_
  walk_at "ww"
  refine ⟨(fun h => by have := of_decide_eq_true h; omega), fun _ => ?_⟩
  walk_at "ww"
  refine w_getOwn (.inr hb.1) (.inr hb.2) hD (hc.hg _) hc.hh (hc.fi aMax (by simp)) hm rfl ?_
  walk_at "ww"
  refine ⟨(fun h => by have := of_decide_eq_true h; omega), fun _ => ?_⟩
  walk_at "ww"
  refine ⟨(fun h => nomatch h), fun _ => ?_⟩
  walk_at "ww"
  obtain ⟨m, hm'⟩ : ∃ m : Nat, m = (i % ((2 ^ size : Nat) : Int)).toNat := ⟨_, rfl⟩
  have hmlt : m < 2 ^ size := by
    have h0 : (0 : Int) < ((2 ^ size : Nat) : Int) := by omega
    have := Int.emod_lt_of_pos i h0
    have := Int.emod_nonneg i (Int.ne_of_gt h0)
    omega
  have hmi' : (m : Int) = if i < 0 then i + ((2 ^ size : Nat) : Int) else i := by
    have h0 : (0 : Int) < ((2 ^ size : Nat) : Int) := by omega
    have := Int.emod_nonneg i (Int.ne_of_gt h0)
    rw [hm', Int.toNat_of_nonneg this]
    split
    · rw [← Int.add_emod_right, Int.emod_eq_of_lt (by omega) (by omega)]
    · rw [Int.emod_eq_of_lt (by omega) (by omega)]
  refine w_IfJ (fun V H => H = [] ∧ ∃ tt, V = [some (.ref x), some (.int i t), some (.int (m : Int) tt)]) ?_ ?_
  · walk_at "ww"
    refine ⟨fun h => ?_, fun h => ?_⟩
    · have hneg := of_decide_eq_true h
      rw [if_pos hneg] at hmi'
      walk_at "ww"
      refine w_getOwn (.inr hb.1) (.inr hb.2) hD (hc.hg _) hc.hh (hc.fi aSize (by simp)) hs rfl ?_
      refine w_shl_int (n := size) (by omega) rfl (by decide) fun t4 => ?_
      walk_at "ww"
      rw [powC, Int.one_mul, ← hmi']
      exact ⟨rfl, rfl, _, rfl⟩
    · have hneg := of_decide_eq_false h
      rw [if_neg hneg] at hmi'
      walk_at "ww"
      rw [← hmi']
      exact ⟨rfl, rfl, _, rfl⟩
  · rintro V H ⟨rfl, t4, rfl⟩
    walk_at "ww"
    refine w_getOwn (.inr hb.1) (.inr hb.2) hD (hc.hg _) hc.hh (hc.fi aSize (by simp)) hs rfl ?_
    refine w_shl_int (n := size) (by omega) rfl (by decide) fun t5 => ?_
    walk_at "ww"
    refine w_bin (k := size) (m := m) (by rw [powC]; omega) hmlt (by omega) fun t6 => ?_
    walk_at "ww"
    refine cut_str (.int _ _) .none (by simp [chs_len, bitsN_len]; omega) fun t7 => ?_
    walk_at "ww"
    rw [cutF (i := 3) (k := 3) rfl, ← hm']
    exact ⟨[], SubP.nil, t7, rfl, rfl⟩

theorem s_unpack_sp {w : World} {x : Value} {bits : List Bool} {b : Bool} {r : List Bool} {t : Tok} (hb : bits = b :: r) (hl : bits.length ≤ 640) :
    Sp w 1 (call (.ref 129) [x, .str (S (chs bits)) t]) [] (fun _ => True) (fun v P' => ∃ t, v = .int (if b then (valb bits : Int) - ((2 ^ bits.length : Nat) : Int) else (valb bits : Int)) t ∧ P' = []) NoX := by
  refine Sp.def (F := fn_s_unpack) (n := 0) (vals := [_, _]) (s_unpack_is w) rfl rfl (fun s A p => BindsTo.of_eq (by kernel_rfl)) (by show 2 ≤ 3; decide) (V₀ := [some x, some (.str (S (chs bits)) t), none]) rfl (fun C hw hn _ => ?_)
  have ok := (s_unpack_is w).ok
  walk_at "ww"
  refine w_int2 (by rw [hb]; simp) hl fun t1 => ?_
  walk_at "ww"
  refine w_IfJ (fun V H => H = [] ∧ ∃ tt, V = [some x, some (.str (S (chs bits)) t), some (.int (if b then (valb bits : Int) - ((2 ^ bits.length : Nat) : Int) else (valb bits : Int)) tt)]) ?_ ?_
  · walk_at "ww"
    refine w_item_S (c := hexCh b.toNat) (by decide) (item_at (i := 0) (by subst hb; rfl)) fun t2 => ?_
    walk_at "ww"
    refine ⟨fun h => ?_, fun h => ?_⟩
    · have hbt : b = true := by cases b <;> first | rfl | exact absurd h (by decide)
      walk_at "ww"
      refine w_len_S (by rw [chs_len]; omega) fun t3 => ?_
      refine w_shl_int (n := bits.length) (by omega) (by rw [chs_len]) (by decide) fun t4 => ?_
      walk_at "ww"
      rw [hbt, powC, Int.one_mul]
      exact ⟨rfl, rfl, _, rfl⟩
    · have hbt : b = false := by cases b <;> first | rfl | exact absurd h (by decide)
      walk_at "ww"
      rw [hbt]
      exact ⟨rfl, rfl, _, rfl⟩
  · rintro V H ⟨rfl, t2, rfl⟩
    walk_at "ww"
    exact ⟨_, rfl, rfl⟩


/-! raw bytes, padding, text -/
theorem r_pack_sp {w : World} {x dx Cc : Addr} {od : Obj} {kv : KV} {size : Nat} {bs : List UInt8} {t t1 : Tok} (hc : ClsOk w Cc infoNames) (hD : DO od kv) (hs : kvGet aSize kv = some (.int size t1))
    (hz : size ≤ 600) (hl : size ≤ 8 * bs.length) (hl2 : bs.length ≤ 100) : Sp w 3 (call (.ref 288) [.ref x, .bytes bs.toArray t]) [] (infoPre x dx Cc od) (fun v P' => ∃ t, v = .str (S (chs ((bitsB bs).take size))) t ∧ P' = []) NoX := by
  refine Sp.def (F := fn_r_pack) (n := 2) (vals := [_, _]) (r_pack_is w) rfl rfl (fun s A p => BindsTo.of_eq (by kernel_rfl)) (by show 2 ≤ 3; decide) (V₀ := [some (.ref x), some (.bytes bs.toArray t), none]) rfl (fun C hw hn hb => W.shrink ?_)
  have ok := (r_pack_is w).ok
  subst hw
  walk_at "ww"
  refine w_getOwn (.inr hb.1) (.inr hb.2) hD (hc.hg _) hc.hh (hc.fi aSize (by simp)) hs rfl ?_
  walk_at "ww"
  refine w_len_B (by omega) fun t2 => ?_
  refine w_mul_int (m := 4) (n := 7) (by decide) (by rw [Int.natAbs_natCast]; omega) (by decide) fun t3 => ?_
  walk_at "ww"
  refine w_div_int (m := 4) (by decide) (by decide) (by decide) fun t4 => ?_
  have e0 : (((size : Int) - 8 * (bs.length : Int)) / 8).toNat = 0 := by omega
  walk_at "ww"
  refine w_rmul_B (by decide) (by omega) (by omega) (by decide) fun t5 => ?_
  rw [e0]
  refine w_iadd_B (by simp; omega) fun t6 => ?_
  rw [show bs ++ (List.replicate 0 [(0 : UInt8)]).flatten = bs by simp]
  walk_at "ww"
  ktf_call 234
  walk_at "ww"
  refine w_spz (b2a_sp (by omega)) (by omega) (fun _ _ => trivial) (fun _ _ ⟨_, _, e⟩ => e) ?_
  rintro v P' ⟨t7, rfl, _⟩
  refine w_add_B (by simp [hexB, hexDs_len]; omega) fun t8 => ?_
  walk_at "ww"
  have e1 : [48, 49] ++ hexB (hexDs bs) = hexB (0 :: 1 :: hexDs bs) := rfl
  rw [e1]
  refine w_int16 (ds := 0 :: 1 :: hexDs bs) ?_ (by simp) (by simp) (by simp [hexDs_len]; omega) fun t9 => ?_
  · intro d hd
    rcases List.mem_cons.mp hd with rfl | hd
    · decide
    · rcases List.mem_cons.mp hd with rfl | hd
      · decide
      · exact hexDs_lt bs d hd
  walk_at "ww"
  refine w_bin (k := 8 * bs.length) (m := vB bs) ?_ (vB_lt bs) (by omega) fun t10 => ?_
  · have : foldD 16 (0 :: 1 :: hexDs bs) 0 = foldD 16 (hexDs bs) 1 := rfl
    rw [this, foldD_acc16, hexDs_len, pow16, Nat.one_mul]; rfl
  walk_at "ww"
  refine w_getOwn (.inr hb.1) (.inr hb.2) hD (hc.hg _) hc.hh (hc.fi aSize (by simp)) hs rfl ?_
  walk_at "ww"
  refine cut_str (.int _ _) (.int _ _) (by simp [chs_len, bitsN_len]; omega) fun t11 => ?_
  walk_at "ww"
  rw [cutM (i := 3) (j := (size : Int) + 3) (a := 3) (b := size + 3) rfl (by omega)]
  refine ⟨[], SubP.nil, t11, ?_, rfl⟩
  show Value.str (S (((chs (bitsB bs))).take (size + 3 - 3))) _ = _
  rw [Nat.add_sub_cancel, chs_take]

theorem rep1 (p : Nat) (b : Bool) : (List.replicate p [hexCh b.toNat]).flatten = chs (List.replicate p b) := by
  induction p with
  | zero => rfl
  | succ p ih => rw [List.replicate_succ, List.flatten_cons, ih]; rfl
theorem zp_pack_sp {w : World} {x dx Cc : Addr} {od : Obj} {kv : KV} {size : Nat} {t1 : Tok} (hc : ClsOk w Cc infoNames) (hD : DO od kv) (hs : kvGet aSize kv = some (.int size t1)) (hz : size ≤ 1000) :
    Sp w 1 (call (.ref 326) [.ref x]) [] (infoPre x dx Cc od) (fun v P' => ∃ t, v = .str (S (chs (List.replicate size false))) t ∧ P' = []) NoX := by
  refine Sp.def (F := fn_zp_pack) (n := 0) (vals := [_]) (zp_pack_is w) rfl rfl (fun s A p => BindsTo.of_eq (by kernel_rfl)) (by show 1 ≤ 1; decide) (V₀ := [some (.ref x)]) rfl (fun C hw hn hb => ?_)
  have ok := (zp_pack_is w).ok
  subst hw
  walk_at "ww"
  refine w_getOwn (.inr hb.1) (.inr hb.2) hD (hc.hg _) hc.hh (hc.fi aSize (by simp)) hs rfl ?_
  walk_at "ww"
  refine w_rmul_S (by decide) (by omega) (by simp; omega) fun t2 => ?_
  walk_at "ww"
  refine ⟨t2, ?_, rfl⟩
  rw [Int.toNat_natCast]
  exact congrArg (fun l => Value.str (S l) t2) (rep1 size false)
theorem op_pack_sp {w : World} {x dx Cc : Addr} {od : Obj} {kv : KV} {size : Nat} {t1 : Tok} (hc : ClsOk w Cc infoNames) (hD : DO od kv) (hs : kvGet aSize kv = some (.int size t1)) (hz : size ≤ 1000) :
    Sp w 1 (call (.ref 345) [.ref x]) [] (infoPre x dx Cc od) (fun v P' => ∃ t, v = .str (S (chs (List.replicate size true))) t ∧ P' = []) NoX := by
  refine Sp.def (F := fn_op_pack) (n := 0) (vals := [_]) (op_pack_is w) rfl rfl (fun s A p => BindsTo.of_eq (by kernel_rfl)) (by show 1 ≤ 1; decide) (V₀ := [some (.ref x)]) rfl (fun C hw hn hb => ?_)
  have ok := (op_pack_is w).ok
  subst hw
  walk_at "ww"
  refine w_getOwn (.inr hb.1) (.inr hb.2) hD (hc.hg _) hc.hh (hc.fi aSize (by simp)) hs rfl ?_
  walk_at "ww"
  refine w_rmul_S (by decide) (by omega) (by simp; omega) fun t2 => ?_
  walk_at "ww"
  refine ⟨t2, ?_, rfl⟩
  rw [Int.toNat_natCast]
  exact congrArg (fun l => Value.str (S l) t2) (rep1 size true)
-- part F6
theorem r_unpack_sp {w : World} {x dx Cc : Addr} {od : Obj} {kv : KV} {size : Nat} {bits : List Bool} {t t1 : Tok} (hc : ClsOk w Cc infoNames) (hD : DO od kv) (hsz : kvGet aSize kv = some (.int size t1)) (hl : bits.length = size) (hs : size ≤ 600) :
    Sp w 3 (call (.ref 295) [.ref x, .str (S (chs bits)) t]) [] (infoPre x dx Cc od) (fun v P' => ∃ t, v = .bytes (unB bits).toArray t ∧ P' = []) NoX := by
  refine Sp.def (F := fn_r_unpack) (n := 2) (vals := [_, _]) (r_unpack_is w) rfl rfl (fun s A p => BindsTo.of_eq (by kernel_rfl)) (by show 2 ≤ 3; decide) (V₀ := [some (.ref x), some (.str (S (chs bits)) t), none]) rfl (fun C hw hn hb => W.shrink ?_)
  have ok := (r_unpack_is w).ok
  subst hw
  obtain ⟨n, hn8⟩ : ∃ n, n = (size + 7) / 8 := ⟨_, rfl⟩
  walk_at "ww"
  refine w_getOwn (.inr hb.1) (.inr hb.2) hD (hc.hg _) hc.hh (hc.fi aSize (by simp)) hsz rfl ?_
  walk_at "ww"
  refine w_mod_int (by decide) fun t2 => ?_
  walk_at "ww"
  refine w_IfJ (fun V H => H = [] ∧ ∃ t2 t3, V = [some (.ref x), some (.str (S (chs (bits ++ List.replicate (8 * n - size) false))) t2), t3]) ?_ ?_
  · walk_at "ww"
    refine ⟨fun hc => ?_, fun hc => ?_⟩
    · have h0 : 0 < (size : Int) % 8 := of_decide_eq_true hc
      walk_at "ww"
      have e : ((8 : Int) - (size : Int) % 8).toNat = 8 * n - size := by omega
      refine w_rmul_S (by decide) (by omega) (by rw [e]; simp; omega) fun t3 => ?_
      refine w_iadd_S (by simp [chs_len]; omega) fun t4 => ?_
      walk_at "ww"
      have e2 : (List.replicate (8 * n - size) [48]).flatten = chs (List.replicate (8 * n - size) false) := rep1 _ false
      rw [e, e2, ← chs_append]
      exact ⟨rfl, rfl, t4, _, rfl⟩
    · have h0 : ¬ 0 < (size : Int) % 8 := of_decide_eq_false hc
      walk_at "ww"
      rw [show 8 * n - size = 0 by omega, List.replicate_zero, List.append_nil]
      exact ⟨rfl, rfl, t, _, rfl⟩
  · rintro V H ⟨rfl, t3, t4, rfl⟩
    obtain ⟨pb, hpb⟩ : ∃ pb, pb = bits ++ List.replicate (8 * n - size) false := ⟨_, rfl⟩
    rw [← hpb]
    have hpl : pb.length = 8 * n := by rw [hpb, List.length_append, List.length_replicate, hl]; omega
    walk_at "ww"
    ktf_call 248
    walk_at "ww"
    refine w_add_S (by rw [chs_len, hpl]; simp; omega) fun t5 => ?_
    walk_at "ww"
    have e1 : [49, 48, 48, 48, 48, 48, 48, 48] ++ chs pb = chs ([true, false, false, false, false, false, false, false] ++ pb) := by rw [chs_append]; rfl
    rw [e1]
    refine w_int2 (by simp) (by simp [hpl]; omega) fun t6 => ?_
    walk_at "ww"
    refine w_hex (k := 2 * n) (m := valb pb) (by rw [valb_append, hpl, pow16]; rfl) (by rw [pow16, ← hpl]; exact valb_lt pb) (by omega) fun t7 => ?_
    walk_at "ww"
    refine cut_str (.int _ _) .none (by simp [digs_len]; omega) fun t8 => ?_
    rw [cutF (i := 4) (k := 4) rfl]
    have e3 : List.drop 4 ([48, 120, 56, 48] ++ List.map hexCh (digs 16 (2 * n) (valb pb))) = List.map hexCh (hexDs (bytesN n (valb pb))) := by
      rw [hexDs_bytesN]; rfl
    rw [e3]
    walk_at "ww"
    refine w_rstrip ?_ (by simp [hexDs_len, bytesN_len]; omega) fun t9 => ?_
    · intro c hc
      obtain ⟨d, hd, rfl⟩ := List.mem_map.mp (List.mem_of_getLast? hc)
      have h76 : ∀ d, d < 16 → hexCh d ≠ 76 := by decide
      have := h76 d (hexDs_lt _ d hd)
      simpa using this
    walk_at "ww"
    refine w_spz (a2b_sp (by rw [bytesN_len]; omega)) (by omega) (fun _ _ => trivial) (fun _ _ ⟨_, _, e⟩ => e) ?_
    rintro v P' ⟨t10, rfl, _⟩
    walk_at "ww"
    refine ⟨[], SubP.nil, t10, ?_, rfl⟩
    have e4 : bytesN n (valb pb) = unB bits := by
      unfold unB
      rw [hpb, valb_append, valb_zeros, List.length_replicate, Nat.add_zero, hl, ← hn8]
    rw [e4]

theorem t_pack_sp {w : World} {x dx Cc : Addr} {od : Obj} {kv : KV} {k : Nat} {l : List Nat} {enc : List UInt8} {t t1 : Tok} (hc : ClsOk w Cc infoNames) (hD : DO od kv) (hsz : kvGet aSize kv = some (.int (8 * k : Nat) t1))
    (hsu : ∀ x ∈ l, Str.isSurrogate x = false) (he : l.flatMap Str.utf8Of = enc) (hk : enc.length ≤ k) (hk2 : k ≤ 50) :
    Sp w 4 (call (.ref 373) [.ref x, .str (S l) t]) [] (infoPre x dx Cc od) (fun v P' => ∃ t, v = .str (S (chs (bitsB (enc ++ List.replicate (k - enc.length) 0)))) t ∧ P' = []) NoX := by
  refine Sp.def (F := fn_t_pack) (n := 3) (vals := [_, _]) (t_pack_is w) rfl rfl (fun s A p => BindsTo.of_eq (by kernel_rfl)) (by show 2 ≤ 4; decide) (V₀ := [some (.ref x), some (.str (S l) t), none, none]) rfl (fun C hw hn hb => W.shrink ?_)
  have ok := (t_pack_is w).ok
  subst hw
  walk_at "ww"
  refine w_enc_utf8 hsu (by rw [he]; omega) fun t2 => ?_
  rw [he]
  walk_at "ww"
  refine w_getOwn (.inr hb.1) (.inr hb.2) hD (hc.hg _) hc.hh (hc.fi aSize (by simp)) hsz rfl ?_
  walk_at "ww"
  refine w_len_B (by omega) fun t3 => ?_
  refine w_mul_int (m := 4) (n := 7) (by decide) (by rw [Int.natAbs_natCast]; omega) (by decide) fun t4 => ?_
  walk_at "ww"
  refine w_div_int (m := 4) (by decide) (by decide) (by decide) fun t5 => ?_
  have e0 : ((((8 * k : Nat) : Int) - 8 * (enc.length : Int)) / 8).toNat = k - enc.length := by omega
  walk_at "ww"
  refine w_rmul_B (by decide) (by omega) (by omega) (by decide) fun t6 => ?_
  rw [e0]
  have e1 : (List.replicate (k - enc.length) [(0 : UInt8)]).flatten = List.replicate (k - enc.length) 0 := by
    generalize k - enc.length = p
    induction p with
    | zero => rfl
    | succ p ih => rw [List.replicate_succ, List.flatten_cons, ih]; rfl
  rw [e1]
  refine w_iadd_B (by simp; omega) fun t7 => ?_
  walk_at "ww"
  ktf_call 397
  walk_at "ww"
  refine w_getOwn (.inr hb.1) (.inr hb.2) hD (hc.hg _) hc.hh (hc.fi aSize (by simp)) hsz rfl ?_
  walk_at "ww"
  refine w_spz (packba_sp (by simp; omega) (by omega)) (by omega) (fun _ _ => trivial) (fun _ _ ⟨_, _, e⟩ => e) ?_
  rintro v P' ⟨t8, rfl, _⟩
  walk_at "ww"
  refine ⟨[], SubP.nil, t8, ?_, rfl⟩
  have e2 : (bitsB (enc ++ List.replicate (k - enc.length) 0)).length = 8 * k := by
    unfold bitsB; rw [bitsN_len, List.length_append, List.length_replicate]; omega
  rw [List.take_of_length_le (by omega)]

theorem t_unpack_sp {w : World} {x dx Cc : Addr} {od : Obj} {kv : KV} {size n : Nat} {bits : List Bool} {l : List Nat} {t t1 t2 t3 : Tok} (hc : ClsOk w Cc infoNames) (hD : DO od kv) (hsz : kvGet aSize kv = some (.int size t1))
    (hen : kvGet aEnc kv = some (.str (S [117, 116, 102, 45, 56]) t2)) (her : kvGet aErr kv = some (.str (S [115, 116, 114, 105, 99, 116]) t3)) (hl : bits.length = size) (hs : size ≤ 600)
    (hne : unB bits ≠ []) (hd : ∀ id, Builtin._codecs.runDecoder id Builtin._codecs.utf8Decoder (some (PySem.Str.ofString "strict")) true (unB bits).toArray 0 [] = pure (l.toArray, n)) (hll : l.length ≤ 1000) :
    Sp w 4 (call (.ref 380) [.ref x, .str (S (chs bits)) t]) [] (infoPre x dx Cc od) (fun v P' => ∃ t, v = .str (S l) t ∧ P' = []) NoX := by
  refine Sp.def (F := fn_t_unpack) (n := 3) (vals := [_, _]) (t_unpack_is w) rfl rfl (fun s A p => BindsTo.of_eq (by kernel_rfl)) (by show 2 ≤ 3; decide) (V₀ := [some (.ref x), some (.str (S (chs bits)) t), none]) rfl (fun C hw hn hb => W.shrink ?_)
  have ok := (t_unpack_is w).ok
  subst hw
  walk_at "ww"
  ktf_call 404
  walk_at "ww"
  refine w_getOwn (.inr hb.1) (.inr hb.2) hD (hc.hg _) hc.hh (hc.fi aSize (by simp)) hsz rfl ?_
  walk_at "ww"
  refine w_spz (unpackba_sp hl hs) (by omega) (fun _ _ => trivial) (fun _ _ ⟨_, _, e⟩ => e) ?_
  rintro v P' ⟨t4, rfl, _⟩
  walk_at "ww"
  refine w_If ?_
  walk_at "ww"
  refine w_getOwn (.inr hb.1) (.inr hb.2) hD (hc.hg _) hc.hh (hc.fi aErr (by simp)) her rfl ?_
  walk_at "ww"
  refine ⟨fun _ => ?_, (fun h => absurd h (by decide))⟩
  walk_at "ww"
  refine w_If ?_
  walk_at "ww"
  refine w_getOwn (.inr hb.1) (.inr hb.2) hD (hc.hg _) hc.hh (hc.fi aEnc (by simp)) hen rfl ?_
  walk_at "ww"
  refine ⟨fun _ => ?_, (fun h => absurd h (by decide))⟩
  walk_at "ww"
  refine w_dec3 hne hd (by omega) fun t5 => ?_
  walk_at "ww"
  exact ⟨[], SubP.nil, t5, rfl, rfl⟩
-- part F7
local macro_rules | `(tactic| ktn_call 1 9) => `(tactic| with_reducible first
  | (apply kept_bound; nest_cls; kernel_rfl))
local macro_rules | `(tactic| kcf_m) => `(tactic| ((dsimp only [List.cons_append, List.nil_append]); with_reducible first | apply SubP.rfl | apply SubP.nil | (apply SubP.take; kcj_m; kcf_m) | (apply SubP.skip; kcf_m)))
/-! inits that go by super() -/
theorem kvGet_same (n : Str) (v : Value) : ∀ kv, kvGet n (kvPut n v kv) = some v
  | [] => by simp [kvPut, kvGet]
  | p :: r => by
    by_cases h : (p.1 == n) = true
    · simp [kvPut, kvGet, h]
    · simp only [kvPut, if_neg h, kvGet]; exact kvGet_same n v r
theorem DO.cast {o : Obj} {kv kv' : KV} (h : DO o kv) (e : kv = kv') : DO o kv' := e ▸ h
theorem s_init_sp {w : World} {x dx size : Nat} {nm : Value} {t : Tok} (h1 : 1 ≤ size) (hz : size ≤ 1000) :
    SpC w 2 (.ref 115) ⟨[.ref x, .int size t, nm], []⟩ [(x, instObj 132 dx), (dx, dictOf [] 0)] (fun _ => True) (fun v P' => v = .none ∧ ∃ od t1 t2, P' = [(x, instObj 132 dx), (dx, od)] ∧
      DO od [(aSize, .int size t), (aName, nm), (aEnd, .none), (aMin, .int (-((2 ^ (size - 1) : Nat) : Int)) t1), (aMax, .int (((2 ^ (size - 1) : Nat) : Int) - 1) t2)]) NoX := by
  refine SpC.defA (F := fn_s_init) (n := 1) (vals := [.ref x, .int size t, nm]) (s_init_is w) rfl rfl (fun s A p => BindsTo.of_eq (by kernel_rfl)) (by show 3 ≤ 3; decide) (V₀ := [some (.ref x), some (.int size t), some nm]) rfl (fun C hw hn hb => ?_)
  have ok := (s_init_is w).ok
  subst hw
  have hc := s_ok C.w
  refine wa_cons (wa_Expr (wa_MethodCall (wa_super (cda := 114) (cc := 103) (D := 132) (s_init_is C.w) (.inl (.head _)) (.inl (.tail _ (.head _))) rfl (by tb_start) rfl rfl rfl (by kernel_rfl) rfl rfl (by kernel_rfl) (by kernel_rfl) (by kernel_rfl) (by kernel_rfl) (by kernel_rfl) (by kernel_rfl) (by kernel_rfl) (by kernel_rfl) fun so => ?_)) (by kernel_rfl) (by kernel_rfl))
  refine w_superM (f2 := 92) (.head _) (.inl (.tail _ (.head _))) (.inl (.tail _ (.tail _ (.head _)))) (by kernel_rfl) (by kernel_rfl) (by kernel_rfl) (by kernel_rfl) fun q => ?_
  walk_at "ww"
  refine w_callM (P := [(x, instObj 132 dx), (dx, dictOf [] 0)]) (R := [(q, methodObj (.ref 92) (.ref x))]) (by simp) (info_init_sp hc) (by omega) (by kcf_m) (fun _ _ => trivial) ?_ (fun _ _ x => x.elim)
  rintro v P' ⟨rfl, o1, rfl, hD1⟩
  refine w_drop' (H' := [(x, instObj 132 dx), (dx, o1)]) (.take .here (.take .here (.skip .rfl))) ?_
  walk_at "ww"
  refine w_pow_int (n := size - 1) (by omega) (by omega) (by decide) fun t1 => ?_
  rw [powC]
  walk_at "ww"
  refine w_setOwn (.inl (.head _)) hD1 hc.hs hc.hp (hc.tk aMin (by simp)) hc.hh (kv_le (by kernel_rfl)) (fun o' => .tail .head) fun o2 hD2 => ?_
  walk_at "ww"
  refine w_getOwn (.inl (.head _)) (.inl (.tail _ (.head _))) hD2 (hc.hg _) hc.hh (hc.fi aMin (by simp)) (kvGet_same _ _ _) rfl ?_
  walk_at "ww"
  refine w_setOwn (.inl (.head _)) hD2 hc.hs hc.hp (hc.tk aMax (by simp)) hc.hh (kv_le (by kernel_rfl)) (fun o' => .tail .head) fun o3 hD3 => ?_
  walk_at "ww"
  rename_i ka _ _ kb
  rw [Int.neg_neg] at hD3
  exact ⟨_, .rfl, rfl, o3, ka, kb, rfl, hD3.cast (by kernel_rfl)⟩

theorem u_init_sp {w : World} {x dx Cc size : Nat} {nm : Value} {t : Tok} (hc : ClsOk w Cc infoNames) (hsub : mroIn (KF w) Cc (.ref 167) = some true) (hsi : ks_superIn (KF w) Cc 167 "__init__" = some (some (.ref 92))) (hz : size ≤ 1000) :
    SpC w 2 (.ref 150) ⟨[.ref x, .int size t, nm], []⟩ [(x, instObj Cc dx), (dx, dictOf [] 0)] (fun _ => True) (fun v P' => v = .none ∧ ∃ od t2, P' = [(x, instObj Cc dx), (dx, od)] ∧
      DO od [(aSize, .int size t), (aName, nm), (aEnd, .none), (aMax, .int ((2 ^ size - 1 : Nat) : Int) t2)]) NoX := by
  refine SpC.defA (F := fn_u_init) (n := 1) (vals := [.ref x, .int size t, nm]) (u_init_is w) rfl rfl (fun s A p => BindsTo.of_eq (by kernel_rfl)) (by show 3 ≤ 3; decide) (V₀ := [some (.ref x), some (.int size t), some nm]) rfl (fun C hw hn hb => ?_)
  have ok := (u_init_is w).ok
  subst hw
  refine wa_cons (wa_Expr (wa_MethodCall (wa_super (cda := 149) (cc := 138) (D := 167) (u_init_is C.w) (.inl (.head _)) (.inl (.tail _ (.head _))) rfl (by tb_start) rfl rfl rfl (by kernel_rfl) rfl rfl (by kernel_rfl) hsub (by kernel_rfl) (by kernel_rfl) (by kernel_rfl) (by kernel_rfl) (by kernel_rfl) (by kernel_rfl) fun so => ?_)) (by kernel_rfl) (by kernel_rfl))
  refine w_superM (f2 := 92) (.head _) (.inl (.tail _ (.head _))) (.inl (.tail _ (.tail _ (.head _)))) (by kernel_rfl) hsi (by kernel_rfl) (by kernel_rfl) fun q => ?_
  walk_at "ww"
  refine w_callM (P := [(x, instObj Cc dx), (dx, dictOf [] 0)]) (R := [(q, methodObj (.ref 92) (.ref x))]) (by simp) (info_init_sp hc) (by omega) (by kcf_m) (fun _ _ => trivial) ?_ (fun _ _ x => x.elim)
  rintro v P' ⟨rfl, o1, rfl, hD1⟩
  refine w_drop' (H' := [(x, instObj Cc dx), (dx, o1)]) (.take .here (.take .here (.skip .rfl))) ?_
  walk_at "ww"
  refine w_pow_int (n := size) (by omega) rfl (by decide) fun t1 => ?_
  rw [powC]
  walk_at "ww"
  refine w_setOwn (.inl (.head _)) hD1 hc.hs hc.hp (hc.tk aMax (by simp)) hc.hh (kv_le (by kernel_rfl)) (fun o' => .tail .head) fun o2 hD2 => ?_
  walk_at "ww"
  have e : ((2 ^ size : Nat) : Int) - 1 = ((2 ^ size - 1 : Nat) : Int) := by have := Nat.two_pow_pos size; omega
  rw [e] at hD2
  rename_i ka
  exact ⟨_, .rfl, rfl, o2, ka, rfl, hD2.cast (by kernel_rfl)⟩

theorem t_init_sp {w : World} {x dx : Nat} {sz nm en er : Value} :
    SpC w 2 (.ref 366) ⟨[.ref x, sz, nm, en, er], []⟩ [(x, instObj 383 dx), (dx, dictOf [] 0)] (fun _ => True) (fun v P' => v = .none ∧ ∃ od, P' = [(x, instObj 383 dx), (dx, od)] ∧
      DO od [(aSize, sz), (aName, nm), (aEnd, .none), (aEnc, en), (aErr, er)]) NoX := by
  refine SpC.defA (F := fn_t_init) (n := 1) (vals := [.ref x, sz, nm, en, er]) (t_init_is w) rfl rfl (fun s A p => BindsTo.of_eq (by kernel_rfl)) (by show 5 ≤ 5; decide) (V₀ := [some (.ref x), some sz, some nm, some en, some er]) rfl (fun C hw hn hb => ?_)
  have ok := (t_init_is w).ok
  subst hw
  have hc := t_ok C.w
  refine wa_cons (wa_Expr (wa_MethodCall (wa_super (cda := 365) (cc := 354) (D := 383) (t_init_is C.w) (.inl (.head _)) (.inl (.tail _ (.head _))) rfl (by tb_start) rfl rfl rfl (by kernel_rfl) rfl rfl (by kernel_rfl) (by kernel_rfl) (by kernel_rfl) (by kernel_rfl) (by kernel_rfl) (by kernel_rfl) (by kernel_rfl) (by kernel_rfl) fun so => ?_)) (by kernel_rfl) (by kernel_rfl))
  refine w_superM (f2 := 92) (.head _) (.inl (.tail _ (.head _))) (.inl (.tail _ (.tail _ (.head _)))) (by kernel_rfl) (by kernel_rfl) (by kernel_rfl) (by kernel_rfl) fun q => ?_
  walk_at "ww"
  refine w_callM (P := [(x, instObj 383 dx), (dx, dictOf [] 0)]) (R := [(q, methodObj (.ref 92) (.ref x))]) (by simp) (info_init_sp hc) (by omega) (by kcf_m) (fun _ _ => trivial) ?_ (fun _ _ x => x.elim)
  rintro v P' ⟨rfl, o1, rfl, hD1⟩
  refine w_drop' (H' := [(x, instObj 383 dx), (dx, o1)]) (.take .here (.take .here (.skip .rfl))) ?_
  walk_at "ww"
  refine w_setOwn (.inl (.head _)) hD1 hc.hs hc.hp (hc.tk aEnc (by simp)) hc.hh (kv_le (by kernel_rfl)) (fun o' => .tail .head) fun o2 hD2 => ?_
  walk_at "ww"
  refine w_setOwn (.inl (.head _)) hD2 hc.hs hc.hp (hc.tk aErr (by simp)) hc.hh (kv_le (by kernel_rfl)) (fun o' => .tail .head) fun o3 hD3 => ?_
  walk_at "ww"
  exact ⟨_, .rfl, rfl, o3, rfl, hD3.cast (by kernel_rfl)⟩
-- part F8
/-! booleans -/
theorem SpC.of_sp {w : World} {n : Nat} {f : Value} {args : Args} {P : Led} {pre pre' : Heap → Prop} {Q X : Value → Led → Prop} (h : SpC w n f args P pre Q X) (k : ∀ hp, pre' hp → pre hp) : SpC w n f args P pre' Q X := fun A s p => h A s ⟨p.aok, p.base, p.led, p.nd, k _ p.pre⟩

theorem u_pack_spc {w : World} {x dx Cc : Addr} {od : Obj} {kv : KV} {size n : Nat} {t t1 t2 : Tok} (hc : ClsOk w Cc infoNames) (hD : DO od kv) (hs : kvGet aSize kv = some (.int size t1)) (hm : kvGet aMax kv = some (.int ((2 ^ size - 1 : Nat) : Int) t2))
    (hz : size ≤ 1000) (hn : n < 2 ^ size) : SpC w 1 (.ref 157) ⟨[.ref x, .int n t], []⟩ [] (infoPre x dx Cc od) (fun v P' => ∃ t, v = .str (S (chs (bitsN size n))) t ∧ P' = []) NoX := by
  refine SpC.def (F := fn_u_pack) (n := 0) (vals := [_, _]) (u_pack_is w) rfl rfl (fun s A p => BindsTo.of_eq (by kernel_rfl)) (by show 2 ≤ 3; decide) (V₀ := [some (.ref x), some (.int n t), none]) rfl (fun C hw hn hb => W.shrink ?_)
  have ok := (u_pack_is w).ok
  subst hw
  walk_at "ww"
  refine w_If ?_
  walk_at "ww"
  refine ⟨(fun h => by have := of_decide_eq_true h; omega), fun _ => ?_⟩
  walk_at "ww"
  refine w_getOwn (.inr hb.1) (.inr hb.2) hD (hc.hg _) hc.hh (hc.fi aMax (by simp)) hm rfl ?_
  walk_at "ww"
  refine ⟨(fun h => by have := of_decide_eq_true h; omega), fun _ => ?_⟩
  walk_at "ww"
  refine ⟨(fun h => nomatch h), fun _ => ?_⟩
  walk_at "ww"
  refine w_getOwn (.inr hb.1) (.inr hb.2) hD (hc.hg _) hc.hh (hc.fi aSize (by simp)) hs rfl ?_
  walk_at "ww"
  refine w_shl_int (n := size) (by omega) rfl (by decide) fun t3 => ?_
  walk_at "ww"
  refine w_bin (k := size) (m := n) (by rw [powC]; omega) (by omega) (by omega) fun t4 => ?_
  walk_at "ww"
  refine cut_str (.int _ _) .none (by simp [chs_len, bitsN_len]; omega) fun t5 => ?_
  walk_at "ww"
  rw [cutF (i := 3) (k := 3) rfl]
  exact ⟨[], SubP.nil, t5, rfl, rfl⟩
theorem u_unpack_spc {w : World} {x : Value} {bits : List Bool} {t : Tok} (hne : bits ≠ []) (hl : bits.length ≤ 640) :
    SpC w 1 (.ref 164) ⟨[x, .str (S (chs bits)) t], []⟩ [] (fun _ => True) (fun v P' => ∃ t, v = .int (valb bits : Nat) t ∧ P' = []) NoX := by
  refine SpC.def (F := fn_u_unpack) (n := 0) (vals := [_, _]) (u_unpack_is w) rfl rfl (fun s A p => BindsTo.of_eq (by kernel_rfl)) (by show 2 ≤ 2; decide) (V₀ := [some x, some (.str (S (chs bits)) t)]) rfl (fun C hw hn hb => ?_)
  have ok := (u_unpack_is w).ok
  walk_at "ww"
  refine w_int2 hne hl fun t1 => ?_
  walk_at "ww"
  exact ⟨t1, rfl, rfl⟩

theorem b_pack_sp {w : World} {x dx : Addr} {od : Obj} {kv : KV} {size : Nat} {n : Nat} {t t1 t2 : Tok} (hD : DO od kv) (hs : kvGet aSize kv = some (.int size t1)) (hm : kvGet aMax kv = some (.int ((2 ^ size - 1 : Nat) : Int) t2))
    (h1 : 1 ≤ size) (hz : size ≤ 1000) : Sp w 3 (call (.ref 185) [.ref x, .int n t]) [] (infoPre x dx 196 od) (fun v P' => ∃ t, v = .str (S (chs (bitsN size (min n 1)))) t ∧ P' = []) NoX := by
  refine SpC.sp (SpC.defA (F := fn_b_pack) (n := 2) (vals := [.ref x, .int n t]) (b_pack_is w) rfl rfl (fun s A p => BindsTo.of_eq (by kernel_rfl)) (by show 2 ≤ 2; decide) (V₀ := [some (.ref x), some (.int n t)]) rfl (fun C hw hn hb => ?_))
  have ok := (b_pack_is w).ok
  subst hw
  have hc := b_ok C.w
  refine wa_cons (wa_Return (wa_MethodCall (wa_super (cda := 184) (cc := 173) (D := 196) (b_pack_is C.w) (.inr hb.1) (.inr hb.2) rfl (by tb_start) rfl rfl rfl (by kernel_rfl) rfl rfl (by kernel_rfl) (by kernel_rfl) (by kernel_rfl) (by kernel_rfl) (by kernel_rfl) (by kernel_rfl) (by kernel_rfl) (by kernel_rfl) fun so => ?_)))
  refine w_superM (f2 := 157) (.head _) (.inr hb.1) (.inr hb.2) (by kernel_rfl) (by kernel_rfl) (by kernel_rfl) (by kernel_rfl) fun q => ?_
  walk_at "ww"
  have e : (if ((n : Int) != 0) = true then (1 : Int) else 0) = ((min n 1 : Nat) : Int) := by
    cases n with
    | zero => rfl
    | succ n => rw [if_pos (by simp; omega)]; omega
  rw [e]
  have h2 : 2 ≤ 2 ^ size := by
    have := Nat.pow_le_pow_right (show 0 < 2 by decide) h1
    simpa using this
  refine w_callM (P := []) (R := [(q, methodObj (.ref 157) (.ref x)), (so, ks_superObj 196 x 196)]) (self := .ref x) (by simp) (u_pack_spc hc hD hs hm hz (by omega)) (by omega) .rfl (fun h k => ⟨k _ _ (.inr hb.1), k _ _ (.inr hb.2)⟩) ?_ (fun _ _ x => x.elim)
  rintro v P' ⟨t3, rfl, rfl⟩
  walk_at "ww"
  exact ⟨[], SubP.nil, t3, rfl, rfl⟩

theorem b_unpack_sp {w : World} {x dx : Addr} {od : Obj} {bits : List Bool} {t : Tok} (hne : bits ≠ []) (hl : bits.length ≤ 640) :
    Sp w 3 (call (.ref 193) [.ref x, .str (S (chs bits)) t]) [] (infoPre x dx 196 od) (fun v P' => v = .bool ((valb bits : Int) != 0) ∧ P' = []) NoX := by
  refine SpC.sp (SpC.defA (F := fn_b_unpack) (n := 2) (vals := [.ref x, .str (S (chs bits)) t]) (b_unpack_is w) rfl rfl (fun s A p => BindsTo.of_eq (by kernel_rfl)) (by show 2 ≤ 2; decide) (V₀ := [some (.ref x), some (.str (S (chs bits)) t)]) rfl (fun C hw hn hb => ?_))
  have ok := (b_unpack_is w).ok
  subst hw
  have hc := b_ok C.w
  refine wa_cons (wa_Return (wa_Call1 ?_))
  walk_at "ww"
  refine wa_MethodCall (wa_super (cda := 192) (cc := 173) (D := 196) (b_unpack_is C.w) (.inr hb.1) (.inr hb.2) rfl (by tb_start) rfl rfl rfl (by kernel_rfl) rfl rfl (by kernel_rfl) (by kernel_rfl) (by kernel_rfl) (by kernel_rfl) (by kernel_rfl) (by kernel_rfl) (by kernel_rfl) (by kernel_rfl) fun so => ?_)
  refine w_superM (f2 := 164) (.head _) (.inr hb.1) (.inr hb.2) (by kernel_rfl) (by kernel_rfl) (by kernel_rfl) (by kernel_rfl) fun q => ?_
  walk_at "ww"
  refine w_callM (P := []) (R := [(q, methodObj (.ref 164) (.ref x)), (so, ks_superObj 196 x 196)]) (self := .ref x) (by simp) (u_unpack_spc hne hl) (by omega) .rfl (fun h k => trivial) ?_ (fun _ _ x => x.elim)
  rintro v P' ⟨t3, rfl, rfl⟩
  walk_at "ww"
  exact ⟨[], SubP.nil, rfl, rfl⟩
-- part Ru9
theorem digs_range (b : Nat) : ∀ k m, digs b k m = ((List.range k).map fun i => m / b ^ i % b).reverse
  | 0, m => rfl
  | k + 1, m => by
    show digs b k (m / b) ++ [m % b] = _
    rw [digs_range b k (m / b), List.range_succ_eq_map, List.map_cons, List.reverse_cons, List.map_map]
    congr 2
    · refine List.map_congr_left fun i _ => ?_
      show m / b / b ^ i % b = m / b ^ (i + 1) % b
      rw [Nat.div_div_eq_div_mul, Nat.pow_succ, Nat.mul_comm]
    · simp
theorem low_bytes {x n : Nat} (h : x < 256 ^ n) : (KTBy.low (x : Int) n).reverse = bytesN n x := by
  have hx : (x : Int) < 256 ^ n := by rw [KTBy.p256]; exact Int.ofNat_lt.mpr h
  have e := KTBy.low_ints (Int.natCast_nonneg x) hx
  have e2 : (KTBy.low (x : Int) n).map (fun c => c.toNat) = (List.range n).map fun i => x / 256 ^ i % 256 := by
    have := congrArg (List.map Int.toNat) e
    rw [List.map_map, List.map_map] at this
    have a1 : (Int.toNat ∘ fun (c : UInt8) => ((c.toNat : Nat) : Int)) = fun c => c.toNat := by funext c; exact Int.toNat_natCast _
    have a2 : (Int.toNat ∘ fun (i : Nat) => (x : Int) / 256 ^ i % 256) = fun i => x / 256 ^ i % 256 := by
      funext i
      show ((x : Int) / 256 ^ i % 256).toNat = _
      rw [KTBy.p256, ← Int.natCast_ediv]
      omega
    rw [a1, a2] at this
    exact this
  have e3 : KTBy.low (x : Int) n = ((List.range n).map fun i => x / 256 ^ i % 256).map Nat.toUInt8 := by
    rw [← e2, List.map_map]
    have : (Nat.toUInt8 ∘ fun (c : UInt8) => c.toNat) = id := by funext c; exact UInt8.ofNat_toNat
    rw [this, List.map_id]
  unfold bytesN
  rw [e3, digs_range, List.map_reverse]

section
variable {Fx : Fn} {C : Cx Fx} {E : Value → Vals → Led → Prop} {V : Vals} {H : Led} {t u v : Tok}
theorem w_tobytes_m {n : Int} {pl : Sem Bool} {Q : Value × List Value → Vals → Led → Prop} (h : Q (.builtin "int.to_bytes", [.int n t]) V H) : W C E (getMethod (.int n t) (PySem.Str.ofString "to_bytes") pl) V H Q := .mk fun s v =>
  KTBy.method ⟨V, H, v, h⟩
variable {Q : Value → Vals → Led → Prop}
theorem w_to_bytes {x k : Nat} {i j : Int} (hi : i = x) (hj : j = k) (hk : k ≤ 1000) (hx : x < 256 ^ k) (h : ∀ t, Q (.bytes (bytesN k x).toArray t) V H) :
    W C E (call (.builtin "int.to_bytes") [.int i t, .int j u, .str (S [98, 105, 103]) v]) V H Q := .mk fun s vw => by
  subst hi hj
  rw [← sc26]
  have hb : Builtin.Int.intBits (x : Int) ≤ 8 * k := by
    refine intBits_le_iff.mpr ?_
    have e2 : (2 : Nat) ^ 8 = 256 := by decide
    rw [Nat.pow_mul, e2, Int.natAbs_natCast]; exact hx
  refine wpAny_call_entry KTBy.slot (typeIs_int s x t) KTBy.entry ?_ (KTBy.args _ _ _)
  show wpAny _ _ (Builtin.Int.intOfSelf (.int x t) >>= fun y => _) _ _ s
  refine wpAny_bind (wpAny_of_eq (a := (x : Int)) rfl ?_)
  show wpAny _ _ (Builtin.Int.intBindNamed "to_bytes" ["length", "byteorder", "signed"] 0 2 [.int (k : Int) u, .str (PySem.Str.ofString "big") v] [] >>= fun l => _) _ _ s
  refine wpAny_bind (wpAny_of_eq (a := [some (.int (k : Int) u), some (.str (PySem.Str.ofString "big") v), none]) (by kernel_rfl) ?_)
  show wpAny _ _ (Builtin.Int.intIndex "int.to_bytes" (.int (k : Int) u) >>= fun n => _) _ _ s
  refine wpAny_bind (wpAny_of_eq (a := (k : Int)) rfl ?_)
  refine KTBy.if_not (by rw [decide_eq_false (show ¬ ((k : Int) < -(2 ^ 63 : Int)) by omega), decide_eq_false (show ¬ ((k : Int) ≥ 2 ^ 63) by omega)]; rfl) ?_
  refine wpAny_bind (wpAny_of_eq (a := PySem.Str.ofString "big") (by kernel_rfl) ?_)
  refine wpAny_bind (wpAny_of_eq (a := false) rfl ?_)
  refine wpAny_bind (wpAny_of_eq (a := false) (by kernel_rfl) ?_)
  refine wpAny_ite_false (decide_eq_false (show ¬ ((k : Int) < 0) by omega)) ?_
  refine wpAny_ite_false (decide_eq_false (show ¬ ((k : Int) > 2 ^ 63 - 1 - 33) by omega)) ?_
  refine wpAny_ite_false (decide_eq_false (show ¬ ((k : Int) > (sizeLine : Int)) by rw [sizeLine_eq]; omega)) ?_
  refine KTBy.if_not (by rw [decide_eq_false (show ¬ (x : Int) < 0 by omega)]; rfl) ?_
  refine KTBy.if_not (by show (_ && decide ((Builtin.Int.intBits (x : Int) : Int) > 8 * (k : Int))) = false; rw [decide_eq_false (show ¬ ((Builtin.Int.intBits (x : Int) : Int) > 8 * (k : Int)) by omega), Bool.and_false]) ?_
  refine wpAny_bind (wpAny_mkBytes (wpAny_pure ⟨_, rfl, V, H, vw.toks _, ?_⟩) (by show (List.reverse (KTBy.low (x : Int) (Int.toNat (k : Int)))).length ≤ sizeLine; rw [List.length_reverse, KTBy.low_length, Int.toNat_natCast]; exact line_le (by omega)))
  have e : (List.reverse (KTBy.low (x : Int) (Int.toNat (k : Int)))).toArray = (bytesN k x).toArray := by rw [Int.toNat_natCast, low_bytes hx]
  exact e ▸ h _
end
-- part Ru10
/-! names in cells -/
section
variable {F : Fn} {C : Cx F} {E : Value → Vals → Led → Prop} {V : Vals} {H : Led}
theorem w_Name_cell (ok : FnOk F) {x : Str} {pos : Pos} {c : Addr} {oc : Obj} {v : Value} {Q : Value → Vals → Led → Prop} (hk : F.fd.scope.names.lookup x = some .cell) (hc : C.env.cells.lookup x = some c) (hv : Has C H c oc) (hd : oc.data = .cell (some v)) (h : Q v V H)
    (hdb : (x == ("__debug__" : Str)) = false := by decide) : W C E (eval (.Name x pos) C.env) V H Q := .mk fun s vw =>
  wpAny_Name (wpAny_loadName_cell (ok.env_fun C) ((ok.env_kind C x).trans hk) hc ⟨oc, hv.at vw, hd⟩ ⟨V, H, vw, h⟩) hdb
end

/-- a def with one name in a cell, called -/
theorem SpC.defC {F : Fn} {w : World} {n : Nat} {P : Led} {pre : Heap → Prop} {Q : Value → Led → Prop} {body : List Stmt} {vals : List Value} {binds : List (Str × Value)} {V₀ : Vals} {cn : Str} {cv : Value}
    (hat : (KF w).lookup F.addr = some ⟨.type "function", none, .func F.fd, #[]⟩) (hcd : codeIn (KF w) F.fd.code F.fd.qualname = true) (hbody : F.fd.body = .stmts body) (hgen : F.fd.scope.isGenerator = false) (hco : F.fd.scope.isCoroutine = false)
    (hfk : F.fd.scope.kind = .function) (hclo : F.fd.closure = []) (hmk : ∀ L o, F.mkE L o = callEnvC F.fd L F.addr) (hce : ∀ L, cellsFrom (L + 1) F.fd.scope.names [] = [(cn, L + 1)]) (hbind : bindArgs F.fd ⟨vals, []⟩ = pure binds)
    (hkind : ∀ x ∈ binds, F.fd.scope.names.lookup x.1 = some .local ∨ (F.fd.scope.names.lookup x.1 = some .cell ∧ x.1 = cn))
    (hL : ∀ L x, bindL (callEnvC F.fd L F.addr).kindOf binds (fun _ => none) x = slot F.names V₀ x) (hC : ∀ L, bindC (callEnvC F.fd L F.addr).kindOf binds (fun _ => none) cn = some cv)
    (h : ∀ (C : Cx F) oc, C.w = w → C.n = n → pre C.h₀ → oc.data = .cell (some cv) → W C NoE (execs body C.env) V₀ ((C.L + 1, oc) :: P) (fun f _ H' => ∃ H'', SubP H'' H' ∧ Q (match f with | .ret v => v | _ => .none) H'')) :
    SpC w (n + 1) (.ref F.addr) ⟨vals, []⟩ P pre Q NoX := fun A s p => by
  have nm : ∀ b o, (hideAll s.heap (keys P)).get? b = some o → s.heap.get? b = some o := fun _ _ e => of_hideAll _ e
  have B := p.base.keeps nm
  refine codeAny_call_cells (by have := p.aok.dep; show A.depth < 1000; omega) (B.kin _ _ hat) rfl B.lim (codeRec_of B.kin hcd) hbody hbind hclo
    (fun x hx => (hkind x hx).imp id fun ⟨a, b⟩ => ⟨a, by rw [hce, b]; simp [List.lookup_cons]⟩) (fun s₁ x => ?_) hco hgen hfk
  let C : Cx F := { w, A := A.deeper (callEnvC F.fd s.heap.objs.size F.addr), L := s.heap.objs.size, h₀ := hideAll s.heap (keys P), g₀ := s.gens, os₀ := s.os, n, aok := p.aok.deeper _, base := p.base }
  have hcells : (callEnvC F.fd s.heap.objs.size F.addr).cells = [(cn, s.heap.objs.size + 1)] := hce _
  have hloc : (callEnvC F.fd s.heap.objs.size F.addr).locals = s.heap.objs.size := rfl
  obtain ⟨oc, hoc, hod⟩ := x.cell cn (s.heap.objs.size + 1) (by rw [hcells]; simp [List.lookup_cons])
  rw [hC] at hod
  have ns := x.toInCall.ns
  rw [hloc] at ns
  obtain ⟨h', tk, es, hk⟩ := x.done
  have fresh : ∀ k : Nat, s.heap.objs.size ≤ k → s.heap.get? k = none := fun k hk => by
    cases e : s.heap.get? k with
    | none => rfl
    | some o => exact absurd (Nat.lt_of_lt_of_le (Heap.lt_size e) hk) (Nat.lt_irrefl _)
  have key := (h C oc rfl rfl p.pre hod).run s₁ (by
    subst es
    refine ⟨⟨?_, fun b o e => hk b o (nm b o e), Nat.le_of_eq (hideAll_size _ _)⟩, fun q hq => ?_, ?_, .refl _, rfl⟩
    · have e : (fun x => bindL (callEnvC F.fd s.heap.objs.size F.addr).kindOf binds (fun _ => none) x) = slot F.names V₀ := funext fun x => hL _ x
      rw [← e]; exact ns
    · rcases List.mem_cons.mp hq with rfl | hq
      · refine ⟨hoc, Nat.ne_of_gt (Nat.lt_succ_self _), ?_⟩
        cases e : (hideAll s.heap (keys P)).get? (s.heap.objs.size + 1) with
        | none => rfl
        | some o => have := nm _ _ e; rw [fresh _ (Nat.le_succ _)] at this; cases this
      · exact ⟨hk _ _ (p.led q hq), Nat.ne_of_lt (Heap.lt_size (p.led q hq)), hideAll_none _ (List.mem_map_of_mem hq)⟩
    · refine List.nodup_cons.mpr ⟨fun hm => ?_, p.nd⟩
      obtain ⟨q, hq, e⟩ := List.mem_map.mp hm
      have := p.led q hq
      rw [show q.1 = s.heap.objs.size + 1 from e, fresh _ (Nat.le_succ _)] at this
      cases this)
  rw [show C.env = callEnvC F.fd s.heap.objs.size F.addr from hmk _ _] at key
  refine wpAny_mono key (fun f s' ⟨V', H', v', H'', hs, q⟩ => ?_) fun e s' ⟨_, _, _, x⟩ => x.elim
  have st := (v'.subP hs).step (s := s) (own := keys P) rfl rfl rfl
  cases f <;> exact ⟨H'', st, q⟩

section
variable {Fx : Fn} {C : Cx Fx} {E : Value → Vals → Led → Prop} {V : Vals} {H : Led}

noncomputable abbrev testsOf (ifs : List Expr) (env : Env) : Sem Bool := forIn ifs true fun c r => if r = true then do let ok ← isTrue c env (eval c env); pure (ForInStep.yield ok) else pure (ForInStep.yield r)
theorem w_tests0 {Q : Bool → Vals → Led → Prop} (h : Q true V H) : W C E (testsOf [] C.env) V H Q := by
  show W C E (forIn [] true _) V H Q
  rw [List.forIn_nil]; exact w_pure h
theorem w_tests1 {c : Expr} {Q : Bool → Vals → Led → Prop} (h : W C E (isTrue c C.env (eval c C.env)) V H Q) : W C E (testsOf [c] C.env) V H Q := by
  show W C E (forIn [c] true _) V H Q
  rw [List.forIn_cons]
  simp only [if_true]
  refine w_bind (w_bind (h.mono fun b V1 H1 q => w_pure ?_))
  dsimp only
  rw [List.forIn_nil]; exact w_pure q

/-- a comprehension over a list -/
theorem w_LC {F' : Fn} (ok' : FnOk F') {elt target iter : Expr} {ifs : List Expr} {sc : Scope} {cl : List (Str × Addr)} {pos : Pos} {Q : Value → Vals → Led → Prop}
    (hmk : ∀ L, F'.mkE L C.L = { newEnv sc L C.env.globals cl C.env.qual none .none (some C.env) builtinsNs with scope := relabel sc C.env }) (hsc : sc.kind = .function)
    (hcell : (sc.names.all fun x => x.2 != .cell) = true) (hnames : (sc.names.all fun x => x.2 != .local || sc.names.lookup x.1 == some .local) = true) (hclos : closureFor sc C.env = pure cl)
    (h : W C E (eval iter C.env) V H (fun x V1 H1 => ∃ l ol vs, x = .ref l ∧ Has C H1 l ol ∧ LO ol vs ∧ vs.length ≤ 100000 ∧ ∃ R : Nat → List Value → Prop, R 0 [] ∧
      (∀ (C' : Cx F') V' H' i y ws, C'.w = C.w → C'.n = C.n → C'.out = C.L → (∀ a o, Has C H1 a o → C'.h₀.get? a = some o) → vs[i]? = some y → R i ws → V'.length = F'.names.length →
        W C' NoE (assign target C'.env y) V' H' (fun _ V2 H2 => W C' NoE (testsOf ifs C'.env) V2 H2 (fun b V3 H3 => (b = true → W C' NoE (eval elt C'.env) V3 H3 (fun z V4 H4 => V4.length = F'.names.length ∧ SubP H' H4 ∧ R (i + 1) (ws ++ [z]))) ∧
          (b = false → V3.length = F'.names.length ∧ SubP H' H3 ∧ R (i + 1) ws)))) ∧
      (∀ ws a, R vs.length ws → Q (.ref a) V1 ((a, listO ws ws.length) :: H1))))
    (hfold : ∀ x, foldedSetIterable iter C.env x = Pure.pure x := by intro _; kernel_rfl) (ht : ∀ it v, letOwnedTupleGo target it v = Pure.pure () := by intro _ _; rfl) :
    W C E (eval (.ListComp elt [⟨target, iter, ifs, 0⟩] sc pos) C.env) V H Q := .mk fun s v => by
  have hc : ∀ x ∈ sc.names, x.2 ≠ .cell := fun x hx e => by have := List.all_eq_true.mp hcell x hx; rw [e] at this; simp at this
  have hn : ∀ x ∈ sc.names, x.2 = .local → sc.names.lookup x.1 = some .local := fun x hx e => by
    have := List.all_eq_true.mp hnames x hx
    rw [e] at this
    simpa using this
  rw [eval_ListComp]
  refine wpAny_comprehension_free (use := none) rfl hfold hclos hsc hn (wpAny_mono (h.run s v) (fun x s1 ⟨V1, H1, v1, l, ol, vs, hx, hl, lo, hlen, R, hR0, step, fin⟩ => ?_) fun _ _ x => x)
  subst hx
  refine wpAny_pyIter_list (lo.isList (hl.at v1)) ?_
  refine wpAny_newObj_type ?_ (by show (#[] : Array Value).size ≤ sizeLine; exact Nat.zero_le _)
  refine wpAny_newFunctionEnv hc (fun _ hx => nomatch hx) (fun h4 hns hsb => ?_) hsc
  have e0 : (fun x : Str => ([] : List (Str × Value)).reverse.lookup x) = slot F'.names (List.replicate F'.names.length none) := by rw [slot_none]; rfl
  rw [e0] at hns
  obtain ⟨oi, hoi⟩ : ∃ oi : Obj, oi = { cls := .type "list_iterator", data := .fields #[.ref l, .int 0 0] } := ⟨_, rfl⟩
  rw [← hoi] at hns hsb ⊢
  have sz1 : (s1.heap.push oi).objs.size = s1.heap.objs.size + 1 := Heap.size_push ..
  have sz2 : ((s1.heap.push oi).push (listO [] 0)).objs.size = s1.heap.objs.size + 1 + 1 := by rw [Heap.size_push, sz1]
  obtain ⟨N, hN⟩ : ∃ N : Nat, N = s1.heap.objs.size := ⟨_, rfl⟩
  obtain ⟨A1, hA1⟩ : ∃ A1 : Nat, A1 = (s1.heap.push oi).objs.size := ⟨_, rfl⟩
  have hA1' : A1 = N + 1 := by rw [hA1, sz1, hN]
  have hZ : ((s1.heap.push oi).push (listO [] 0)).objs.size = N + 2 := by rw [sz2, hN]
  have g1 : ∀ b o, s1.heap.get? b = some o → h4.get? b = some o := fun b o e => by
    have hb : (b : Nat) < N := by rw [hN]; exact Heap.lt_size e
    have : h4.get? b = _ := hsb.2 b (by show (b : Nat) ≠ ((s1.heap.push oi).push (listO [] 0)).objs.size; rw [hZ]; exact Nat.ne_of_lt (Nat.lt_of_lt_of_le hb (Nat.le_add_right N 2)))
    rw [this]
    exact Heap.get?_push_of_some _ (Heap.get?_push_of_some _ (Heap.get?_push_of_some _ e))
  have g2 : h4.get? s1.heap.objs.size = some oi := by
    have : h4.get? s1.heap.objs.size = _ := hsb.2 _ (by show s1.heap.objs.size ≠ ((s1.heap.push oi).push (listO [] 0)).objs.size; rw [hZ, hN]; exact Nat.ne_of_lt (Nat.lt_add_of_pos_right (by decide)))
    rw [this]
    exact Heap.get?_push_of_some _ (Heap.get?_push_of_some _ (Heap.get?_push_size _ (by rw [hoi]; rfl)))
  have g3 : h4.get? A1 = some (listO [] 0) := by
    have : h4.get? A1 = _ := hsb.2 _ (by show A1 ≠ ((s1.heap.push oi).push (listO [] 0)).objs.size; rw [hZ, hA1']; exact Nat.ne_of_lt (Nat.lt_succ_self _))
    rw [this]
    refine Heap.get?_push_of_some _ ?_
    rw [hA1]
    exact Heap.get?_push_size (s1.heap.push oi) (o := listO [] 0) rfl
  have nn : ∀ k : Nat, N ≤ k → s1.heap.get? k = none := fun k hk => by
    cases e : s1.heap.get? k with
    | none => rfl
    | some o => exact absurd (Nat.lt_of_lt_of_le (Heap.lt_size e) (hN ▸ hk)) (Nat.lt_irrefl _)
  let C' : Cx F' := { w := C.w, A := C.A, L := ((s1.heap.push oi).push (listO [] 0)).objs.size, h₀ := s1.heap, g₀ := s1.gens, os₀ := s1.os, n := C.n, aok := C.aok, base := v1.base, out := C.L }
  have hLc : C'.L = N + 2 := hZ
  have en : C'.env = { newEnv sc C'.L C.env.globals cl C.env.qual none .none (some C.env) builtinsNs with scope := relabel sc C.env } := hmk _
  have v4 : Vw C' (List.replicate F'.names.length none) [(s1.heap.objs.size, oi), (A1, listO [] 0)] { s1 with heap := h4 } := by
    refine ⟨⟨hns, g1, by show s1.heap.objs.size ≤ C'.L; rw [hLc, hN]; exact Nat.le_add_right _ 2⟩, fun p hp => ?_, ?_, .refl _, rfl⟩
    · rcases List.mem_cons.mp hp with rfl | hp
      · exact ⟨g2, by show s1.heap.objs.size ≠ C'.L; rw [hLc, hN]; exact Nat.ne_of_lt (Nat.lt_add_of_pos_right (by decide)), nn _ (Nat.le_of_eq hN)⟩
      · rcases List.mem_cons.mp hp with rfl | hp
        · exact ⟨g3, by show A1 ≠ C'.L; rw [hLc, hA1']; exact Nat.ne_of_lt (Nat.lt_succ_self _), nn _ (by rw [hA1']; exact Nat.le_succ _)⟩
        · cases hp
    · have : s1.heap.objs.size ≠ A1 := by rw [hA1', hN]; exact Nat.ne_of_lt (Nat.lt_succ_self _)
      simpa using this
  have hL0 : ∀ a o, Has C H1 a o → C'.h₀.get? a = some o := fun a o x => x.at v1
  have body : ∀ s, Vw C' (List.replicate F'.names.length none) [(s1.heap.objs.size, oi), (A1, listO [] 0)] s → codeAny (model prog C.w) C.A (.compLoop (.ListComp elt [⟨target, iter, ifs, 0⟩] sc pos) 0 (.ref s1.heap.objs.size) (.ref A1) C'.env)
      (compPost (model prog C.w) C.A (fun e s' => ∃ V' H', Vw C V' H' s' ∧ E e V' H') none (fun a s' => ∃ V' H', Vw C V' H' s' ∧ Q a V' H') (.ref A1) C'.L) s := fun s vs0 => by
    refine PySem.codeAny_compLoop_tests (fun n s => ∃ i ws V' oi', i + n = vs.length ∧ Vw C' V' [(s1.heap.objs.size, oi'), (A1, listO ws ws.length)] s ∧ V'.length = F'.names.length ∧ LIt l i oi' ∧ R i ws ∧ ws.length ≤ i) ?_ vs.length
      ⟨0, [], _, oi, by omega, vs0, by simp, hoi ▸ ⟨rfl, rfl⟩, hR0, Nat.le_refl _⟩ (ht _)
    rintro n s ⟨i, ws, V', oi', hin, vv, hV', hit, hR, hws⟩
    have hlist := lo.isList (vv.old (hL0 _ _ hl))
    by_cases hi : i < vs.length
    · refine wpAny_pyNext_list_item (x := vs[i]) ⟨oi', vv.at (.head _), hit.1, hit.2⟩ hlist (by simp [hi]) fun h' ⟨o', e, c, d⟩ sb => ?_
      dsimp only
      have v5 := vv.upd .head sb e
      have key := (step C' V' _ i vs[i] ws rfl rfl rfl hL0 (List.getElem?_eq_getElem hi) hR hV').run _ v5
      refine wpAny_mono key (fun _ s6 ⟨V6, H6, v6, k6⟩ => ?_) fun _ _ ⟨_, _, _, x⟩ => x.elim
      refine wpAny_mono (k6.run s6 v6) (fun b s7 ⟨V7, H7, v7, k7⟩ => ?_) fun _ _ ⟨_, _, _, x⟩ => x.elim
      cases b with
      | false =>
        obtain ⟨hV7, hS, hR7⟩ := k7.2 rfl
        rw [if_neg (by decide)]
        exact ⟨n - 1, by omega, i + 1, ws, V7, o', by omega, v7.subP hS, hV7, ⟨c, d⟩, hR7, by omega⟩
      | true =>
        rw [if_pos rfl]
        refine wpAny_mono ((k7.1 rfl).run s7 v7) (fun z s8 ⟨V8, H8, v8, hV8, hS, hR8⟩ => ?_) fun _ _ ⟨_, _, _, x⟩ => x.elim
        have v9 := v8.subP hS
        refine append_at (v9.at (.tail _ (.head _))) (fun h' sb e => ?_) (line_le (by simp; omega))
        exact ⟨n - 1, by omega, i + 1, ws ++ [z], V8, o', by omega, v9.upd (.tail .head) sb (by rw [e]; simp [listO]), hV8, ⟨c, d⟩, hR8, by simp; omega⟩
    · have hi' : i = vs.length := by omega
      subst hi'
      refine wpAny_pyNext_list_end C.aok.hnd ⟨oi', vv.at (.head _), hit.1, hit.2⟩ hlist (by simp) fun h' e => ?_
      have v5 := vv.extBut rfl e
      refine ⟨_, v5.fr.ns, fun h'' hsb' => ?_⟩
      have := v1.after v5 rfl rfl rfl .rfl hsb'
      exact ⟨V1, _, this, fin ws _ hR⟩
  have hbody := body _ v4
  rw [en, hA1] at hbody
  refine PySem.codeAny_compStart_list hbody ?_
  refine PySem.wpAny_pyIter_listiter (i := 0) (l := l) ⟨oi, g2, by rw [hoi], by rw [hoi]; rfl⟩ ?_
  exact hbody
end

/-! where a comprehension stands -/
noncomputable def eArg : Expr → Expr
  | .Call _ (a :: _) _ _ => a
  | e => e
noncomputable def eLeft : Expr → Expr
  | .BinOp l _ _ _ => l
  | .Compare l _ _ _ => l
  | .BoolOp _ (e :: _) _ => e
  | e => e
noncomputable def eScope : Expr → Scope
  | .ListComp _ _ sc _ => sc
  | _ => default
noncomputable def sExpr : Stmt → Expr
  | .Return (some e) _ => e
  | .Assign _ v _ => v
  | .If t _ _ _ => t
  | .Expr e _ => e
  | _ => .Constant .none 0 default
noncomputable def bodyOf (fd : FuncData) : List Stmt := match fd.body with | .stmts b => b | _ => []
-- part Ru11
/-! zip of two tuples -/
section
variable {prog : Program} {w : World} {A : Around} {E : Value → Shared → Prop} {s : Shared}
theorem nextOf_tup {it t : Addr} {i : Nat} {items : Array Value} {x : Value} {Q : Value → Shared → Prop} (hit : s.heap.IsTupleIter it t i) (ht : s.heap.IsTuple t items) (hx : items[i]? = some x)
    (hQ : ∀ h', h'.IsTupleIter it t (i + 1) → Heap.SameBut it s.heap h' → Q x { s with heap := h' }) : wpAny (model prog w) A (Builtin.SmallTypes.nextOf (.ref it)) Q E s := by
  obtain ⟨o, ho, hc, hd⟩ := id hit
  obtain ⟨ol, hol, _, nl, hdl⟩ := ht
  unfold Builtin.SmallTypes.nextOf
  refine wpAny_bind (wpAny_callSpecial?_slot (name := Str.ofString "__next__") hit.typeIs PySem.F.slot_tuple_iterator_next
    (wpAny_call_entry PySem.F.slot_tuple_iterator_next hit.typeIs PySem.F.entry_tuple_iterator_next ?_ (PySem.F.args_tuple_iterator_next_1 _)))
  show wpAny _ _ (field (.ref it) 0 >>= _) _ _ s
  refine wpAny_bind (wpAny_field ho hd (x := .ref t) rfl ?_)
  show wpAny _ _ (if (Value.ref t == Value.none) = true then _ else _) _ _ s
  rw [if_neg (show ¬ ((Value.ref t == Value.none) = true) from Bool.false_ne_true)]
  show wpAny _ _ (field (.ref it) 1 >>= _) _ _ s
  refine wpAny_bind (wpAny_field ho hd (x := .int i 0) rfl ?_)
  show wpAny _ _ (seqItems? (.ref t) >>= _) _ _ s
  refine wpAny_bind (wpAny_seqItems hol hdl ?_)
  simp only [Int.toNat_natCast, hx]
  refine wpAny_bind (wpAny_setField ho hd (by simp) (wpAny_pure ⟨x, rfl, wpAny_pure (hQ _ ?_ (Heap.SameBut.update ..))⟩))
  exact ⟨_, Heap.get?_update_self _ ho (Obj.isFreed_of_fields (Obj.data_mapFields hd _)), (Obj.cls_mapFields ..).trans hc, by
    rw [Obj.data_mapFields hd]; simp [rawInt]⟩
theorem nextOf_tup_end {it t : Addr} {i : Nat} {items : Array Value} {Q : Value → Shared → Prop} (hh : A.handled = none) (hit : s.heap.IsTupleIter it t i) (ht : s.heap.IsTuple t items) (hx : items[i]? = none)
    (hE : ∀ h' e, Heap.ExtBut it s.heap h' → (∃ o, h'.get? e = some o ∧ o.cls = .type "StopIteration") → E (.ref e) { s with heap := h' }) : wpAny (model prog w) A (Builtin.SmallTypes.nextOf (.ref it)) Q E s := by
  obtain ⟨o, ho, hc, hd⟩ := id hit
  obtain ⟨ol, hol, _, nl, hdl⟩ := ht
  unfold Builtin.SmallTypes.nextOf
  refine wpAny_bind (wpAny_callSpecial?_slot (name := Str.ofString "__next__") hit.typeIs PySem.F.slot_tuple_iterator_next
    (wpAny_call_entry PySem.F.slot_tuple_iterator_next hit.typeIs PySem.F.entry_tuple_iterator_next ?_ (PySem.F.args_tuple_iterator_next_1 _)))
  show wpAny _ _ (field (.ref it) 0 >>= _) _ _ s
  refine wpAny_bind (wpAny_field ho hd (x := .ref t) rfl ?_)
  show wpAny _ _ (if (Value.ref t == Value.none) = true then _ else _) _ _ s
  rw [if_neg (show ¬ ((Value.ref t == Value.none) = true) from Bool.false_ne_true)]
  show wpAny _ _ (field (.ref it) 1 >>= _) _ _ s
  refine wpAny_bind (wpAny_field ho hd (x := .int i 0) rfl ?_)
  show wpAny _ _ (seqItems? (.ref t) >>= _) _ _ s
  refine wpAny_bind (wpAny_seqItems hol hdl ?_)
  simp only [Int.toNat_natCast, hx]
  refine wpAny_bind (wpAny_rule (wpAny_bind (wpAny_setField ho hd (by simp) ?_)))
  show wpAny _ _ (newExc (.type "StopIteration") [] >>= _) _ _ _
  refine wpAny_bind ?_
  simp only [newExc, newTuple]
  refine wpAny_bind (wpAny_newObj_type ?_ (by size_fits))
  refine wpAny_bind (m := firstArgMember _ _) (wpAny_of_eq (a := Value.none) (by first | rfl | (simp only [firstArgMember]; rfl)) ?_)
  refine wpAny_newObj_type ?_ (by size_fits)
  simp only [raiseNew]
  refine wpAny_bind (wpAny_handled ?_)
  first | rw [show A.in1.handled = none from hh] | rw [hh]
  refine wpAny_bind (wpAny_pure (wpAny_throw ?_))
  exact hE _ _ (((Heap.SameBut.update ..).extBut.push _).push _) ⟨_, Heap.get?_push_size _ rfl, rfl⟩
end

noncomputable abbrev zipO (TI TO : Addr) (f0 : Value) : Obj := { cls := .type "zip", dict := none, data := .fields #[f0, .bool false, .bool false, .ref TI, .ref TO], slots := #[] }
noncomputable abbrev tiO (l : Addr) : Obj := { cls := .type "tuple_iterator", data := .fields #[.ref l, .int 0 0] }
noncomputable abbrev zt1 (h : Heap) (l1 : Addr) : Heap := h.push (tiO l1)
noncomputable abbrev zt2 (h : Heap) (l1 l2 : Addr) : Heap := (zt1 h l1).push (tiO l2)
noncomputable abbrev zt3 (h : Heap) (l1 l2 : Addr) : Heap := (zt2 h l1 l2).push { cls := .type "tuple", data := .seq #[.ref h.objs.size, .ref (zt1 h l1).objs.size] }
noncomputable abbrev zt4 (h : Heap) (l1 l2 : Addr) : Heap := (zt3 h l1 l2).push { cls := .type "tuple", data := .seq #[.none, .none] }
noncomputable abbrev zt5 (h : Heap) (l1 l2 : Addr) : Heap := (zt4 h l1 l2).push (zipO (zt2 h l1 l2).objs.size (zt3 h l1 l2).objs.size .none)
theorem meets_zip_tup (l1 l2 : Addr) (xs ys : Array Value) :
    Meets (Builtin.«zip.__new__» ⟨[.type "zip", .ref l1, .ref l2], []⟩) (fun _ R s => s.heap.IsTuple l1 xs ∧ s.heap.IsTuple l2 ys ∧
      R (.ok (.ret (.ref (zt4 s.heap l1 l2).objs.size))) { s with heap := zt5 s.heap l1 l2 }) :=
  .of_wp fun prog w A R s h => by
    obtain ⟨hp, g, d, tk, os⟩ := s; obtain ⟨hl1, hl2, h⟩ := h
    have hsub := sub_zip
    have hL1 : Heap.IsTuple (Shared.heap ⟨hp, g, d, tk, os⟩) l1 xs := hl1
    have hL2 : Heap.IsTuple (Shared.heap ⟨hp.push { cls := .type "tuple_iterator", data := .fields #[.ref l1, .int 0 0] }, g, d, tk, os⟩) l2 ys := (let ⟨o, a, b, c⟩ := hl2; ⟨o, Heap.get?_push_of_some _ a, b, c⟩)
    wp_walk using wpAny_pyIter_tuple hL1, wpAny_pyIter_tuple hL2
    exact ⟨_, rfl, h⟩

section
variable {Fx : Fn} {C : Cx Fx} {E : Value → Vals → Led → Prop} {V : Vals} {H : Led}
/-- the parts of a zip at step k -/
structure ZipL (z TI TO i1 i2 l1 l2 : Addr) (k : Nat) (f0 : Value) (Z : Led) : Prop where
  ex : ∃ a b o1 o2, Z = [(z, zipO TI TO f0), (TI, tupO [.ref i1, .ref i2]), (TO, tupO [a, b]), (i1, o1), (i2, o2)] ∧ TIt l1 k o1 ∧ TIt l2 k o2
theorem w_zip {a b : Addr} {vs ws : List Value} {Q : Value → Vals → Led → Prop} (ha : Has C H a (tupO vs)) (hb : Has C H b (tupO ws))
    (h : ∀ z TI TO i1 i2 Z, ZipL z TI TO i1 i2 a b 0 .none Z → Q (.ref z) V (Z ++ H)) : W C E (call (.type "zip") [.ref a, .ref b]) V H Q := .mk fun s v => by
  refine callType_new PySem.F.called_zip (by decide) (PySem.F.typeCall_zip_2 _ _) (PySem.F.newCall_zip_2 _ _) (fun obj => PySem.F.args_object_init_3 obj _ _) PySem.F.entry_zip_new
    (meets_zip_tup a b vs.toArray ws.toArray) ⟨⟨_, ha.at v, rfl, 0, rfl⟩, ⟨_, hb.at v, rfl, 0, rfl⟩, ?_⟩
  have v1 := v.push (o := tiO a) rfl
  have v2 := v1.push (o := tiO b) rfl
  have v3 := v2.push (o := { cls := .type "tuple", data := .seq #[.ref s.heap.objs.size, .ref (zt1 s.heap a).objs.size] }) rfl
  have v4 := v3.push (o := { cls := .type "tuple", data := .seq #[.none, .none] }) rfl
  have v5 := v4.push (o := zipO (zt2 s.heap a b).objs.size (zt3 s.heap a b).objs.size .none) rfl
  refine ⟨⟨_, Heap.get?_push_size _ rfl, rfl⟩, V, _, v5.subP ?_, h (zt4 s.heap a b).objs.size (zt2 s.heap a b).objs.size (zt3 s.heap a b).objs.size s.heap.objs.size (zt1 s.heap a).objs.size _ ⟨.none, .none, tiO a, tiO b, rfl, ⟨rfl, rfl⟩, ⟨rfl, rfl⟩⟩⟩
  show SubP (_ :: _ :: _ :: _ :: _ :: H) _
  refine .take .here (.take (.there .here) (.take .here (.take (.there .here) (.take .here .rfl))))

theorem tit_fields {l : Addr} {k : Nat} {o : Obj} (h : TIt l k o) : ∀ s : Shared, ∀ i, s.heap.get? i = some o → s.heap.IsTupleIter i l k := fun s i e => ⟨o, e, h.1, h.2⟩

theorem w_next_zip {z TI TO i1 i2 l1 l2 : Addr} {k : Nat} {vs ws : List Value} {x y : Value} {Z : Led} {Q : Option Value → Vals → Led → Prop} (hZ : ZipL z TI TO i1 i2 l1 l2 k .none Z) (h1 : Has C H l1 (tupO vs)) (h2 : Has C H l2 (tupO ws))
    (hx : vs[k]? = some x) (hy : ws[k]? = some y) (h : ∀ (T : Addr) Z', ZipL z TI TO i1 i2 l1 l2 (k + 1) (rawInt T) Z' → Q (some (.ref T)) V (Z' ++ (T, tupO [x, y]) :: H)) : W C E (pyNext (.ref z)) V (Z ++ H) Q := .mk fun s v => by
  obtain ⟨a, b, o1, o2, rfl, t1, t2⟩ := hZ.ex
  have hz := v.at (.head _)
  have hT : s.TypeIs (.ref z) "zip" := ⟨_, hz, rfl⟩
  have nd := v.nd
  simp only [List.map_cons, List.cons_append, List.nil_append, List.nodup_cons, List.mem_cons, not_or] at nd
  have hx' : vs.toArray[k]? = some x := by simpa using hx
  have hy' : ws.toArray[k]? = some y := by simpa using hy
  unfold pyNext
  refine wpAny_bind (wpAny_attempt (wpAny_callSpecial?_slot (name := Str.ofString "__next__") hT PySem.F.slot_zip_next (wpAny_call_entry PySem.F.slot_zip_next hT PySem.F.entry_zip_next ?_ (PySem.F.args_zip_next_1 _))))
  show wpAny _ _ (field (.ref z) 2 >>= _) _ _ _
  refine wpAny_bind (wpAny_field hz rfl (x := .bool false) rfl ?_)
  show wpAny _ _ (field (.ref z) 3 >>= _) _ _ _
  refine wpAny_bind (wpAny_field hz rfl (x := .ref TI) rfl ?_)
  refine wpAny_bind (wpAny_seqItems (v.at (.tail _ (.head _))) rfl ?_)
  show wpAny _ _ (Builtin.SmallTypes.ownedTupleIsFree (.ref z) >>= _) _ _ _
  refine wpAny_bind ?_
  unfold Builtin.SmallTypes.ownedTupleIsFree
  refine wpAny_bind (wpAny_field hz rfl (x := .none) rfl (wpAny_pure ?_))
  simp only [if_true]
  refine wpAny_bind (wpAny_rule ?_)
  refine wpAny_bind (wpAny_field hz rfl (x := .ref TO) rfl ?_)
  refine wpAny_bind (wpAny_setField_rec hz (by simp) fun h₁ hz₁ hs₁ => ?_)
  have v1 := v.upd (o' := zipO TI TO .ellipsis) .head hs₁ hz₁
  refine wpAny_bind ?_
  simp only [List.zipIdx_cons, List.zipIdx_nil, List.forIn_cons, List.forIn_nil]
  refine wpAny_bind (wpAny_bind (wpAny_onRaise ?_))
  show wpAny _ _ (Builtin.SmallTypes.nextOf (.ref i1) >>= _) _ _ _
  refine wpAny_bind (nextOf_tup (tit_fields t1 _ _ (v1.at (.tail _ (.tail _ (.tail _ (.head _)))))) ⟨_, h1.cons.cons.cons.cons.cons.at v1, rfl, 0, rfl⟩ hx' fun h₂ ⟨o1', e1, c1, d1⟩ hs₂ => wpAny_pure ?_)
  have v2 := v1.upd (o' := o1') (.tail (.tail (.tail .head))) hs₂ e1
  have g2 := v2.at (.tail _ (.tail _ (.head _)))
  refine wpAny_bind (wpAny_seqItems g2 rfl ?_)
  refine wpAny_bind (wpAny_updateSeq_pair g2 fun h₃ e3 hs₃ => ?_)
  have v3 := v2.upd (o' := tupO [x, b]) (.tail (.tail .head)) hs₃ e3
  refine wpAny_bind (wpAny_letGo (wpAny_pure ?_))
  refine wpAny_bind (wpAny_bind (wpAny_onRaise ?_))
  show wpAny _ _ (Builtin.SmallTypes.nextOf (.ref i2) >>= _) _ _ _
  refine wpAny_bind (nextOf_tup (tit_fields t2 _ _ (v3.at (.tail _ (.tail _ (.tail _ (.tail _ (.head _))))))) ⟨_, h2.cons.cons.cons.cons.cons.at v3, rfl, 0, rfl⟩ hy' fun h₄ ⟨o2', e2, c2, d2⟩ hs₄ => wpAny_pure ?_)
  have v4 := v3.upd (o' := o2') (.tail (.tail (.tail (.tail .head)))) hs₄ e2
  have g4 := v4.at (.tail _ (.tail _ (.head _)))
  refine wpAny_bind (wpAny_seqItems g4 rfl ?_)
  refine wpAny_bind (wpAny_updateSeq_pair g4 fun h₅ e5 hs₅ => ?_)
  have v5 := v4.upd (o' := tupO [x, y]) (.tail (.tail .head)) hs₅ e5
  refine wpAny_bind (wpAny_letGo (wpAny_pure (wpAny_pure ?_)))
  refine wpAny_bind (wpAny_seqItems (v5.at (.tail _ (.tail _ (.head _)))) rfl ?_)
  refine wpAny_bind (wpAny_newTuple ?_)
  have v6 := v5.push (o := tupO [x, y]) rfl
  show wpAny _ _ (Builtin.SmallTypes.ownedTupleHandOut (.ref z) (.ref h₅.objs.size) >>= _) _ _ _
  refine wpAny_bind ?_
  unfold Builtin.SmallTypes.ownedTupleHandOut
  refine wpAny_bind (wpAny_setField_rec (v6.at (.tail _ (.head _))) (by simp) fun h₇ hz₇ hs₇ => ?_)
  have v7 := v6.upd (o' := zipO TI TO (rawInt h₅.objs.size)) (.tail .head) hs₇ hz₇
  refine wpAny_setField_rec (v7.at (.tail _ (.head _))) (by simp) fun h₈ hz₈ hs₈ => ?_
  have v8 := v7.upd (o' := zipO TI TO (rawInt h₅.objs.size)) (.tail .head) hs₈ hz₈
  refine wpAny_pure ⟨_, rfl, ?_⟩
  refine wpAny_pure ⟨V, _, v8.subP ?_, h h₅.objs.size _ ⟨x, y, o1', o2', rfl, ⟨c1, d1⟩, ⟨c2, d2⟩⟩⟩
  exact .take (.there .here) (.take (.there .here) (.take (.there .here) (.take (.there .here) (.take (.there .here) .rfl))))

theorem w_end_zip {z TI TO i1 i2 l1 l2 : Addr} {k : Nat} {vs : List Value} {Z : Led} {Q : Option Value → Vals → Led → Prop} (hZ : ZipL z TI TO i1 i2 l1 l2 k .none Z) (h1 : Has C H l1 (tupO vs))
    (hx : vs.length ≤ k) (h : Q none V H) : W C E (pyNext (.ref z)) V (Z ++ H) Q := .mk fun s v => by
  obtain ⟨a, b, o1, o2, rfl, t1, t2⟩ := hZ.ex
  have hz := v.at (.head _)
  have hT : s.TypeIs (.ref z) "zip" := ⟨_, hz, rfl⟩
  have hx' : vs.toArray[k]? = none := by simpa using hx
  unfold pyNext
  refine wpAny_bind (wpAny_attempt (wpAny_callSpecial?_slot (name := Str.ofString "__next__") hT PySem.F.slot_zip_next (wpAny_call_entry PySem.F.slot_zip_next hT PySem.F.entry_zip_next ?_ (PySem.F.args_zip_next_1 _))))
  show wpAny _ _ (field (.ref z) 2 >>= _) _ _ _
  refine wpAny_bind (wpAny_field hz rfl (x := .bool false) rfl ?_)
  show wpAny _ _ (field (.ref z) 3 >>= _) _ _ _
  refine wpAny_bind (wpAny_field hz rfl (x := .ref TI) rfl ?_)
  refine wpAny_bind (wpAny_seqItems (v.at (.tail _ (.head _))) rfl ?_)
  show wpAny _ _ (Builtin.SmallTypes.ownedTupleIsFree (.ref z) >>= _) _ _ _
  refine wpAny_bind ?_
  unfold Builtin.SmallTypes.ownedTupleIsFree
  refine wpAny_bind (wpAny_field hz rfl (x := .none) rfl (wpAny_pure ?_))
  simp only [if_true]
  refine wpAny_bind (wpAny_rule ?_)
  refine wpAny_bind (wpAny_field hz rfl (x := .ref TO) rfl ?_)
  refine wpAny_bind (wpAny_setField_rec hz (by simp) fun h₁ hz₁ hs₁ => ?_)
  have v1 := v.upd (o' := zipO TI TO .ellipsis) .head hs₁ hz₁
  refine wpAny_bind ?_
  simp only [List.zipIdx_cons, List.zipIdx_nil, List.forIn_cons, List.forIn_nil]
  refine wpAny_bind (wpAny_bind (wpAny_onRaise ?_))
  show wpAny _ _ (Builtin.SmallTypes.nextOf (.ref i1) >>= _) _ _ _
  refine wpAny_bind (nextOf_tup_end C.aok.hnd (tit_fields t1 _ _ (v1.at (.tail _ (.tail _ (.tail _ (.head _)))))) ⟨_, h1.cons.cons.cons.cons.cons.at v1, rfl, 0, rfl⟩ hx' fun h₂ e hs₂ ⟨oe, hoe, hce⟩ => ?_)
  have v2 := (v1.subP (H' := (i1, o1) :: (z, zipO TI TO .ellipsis) :: H) (.take (.there (.there (.there .here))) (.take .here (.skip (.skip (.skip .rfl)))))).extBut rfl hs₂
  have hez : e ≠ z := fun x => by subst x; rw [v2.at (.head _)] at hoe; cases hoe; simp at hce
  refine wpAny_setField_rec (v2.at (.head _)) (by simp) fun h₃ hz₃ hs₃ => ?_
  have v3 := v2.upd (o' := zipO TI TO .none) .head hs₃ hz₃
  refine wpAny_bind (wpAny_isInstance (T := "StopIteration") (b := true) ⟨oe, hs₃.extBut _ _ hez hoe, hce⟩ isSubtype_stop ?_)
  exact wpAny_pure ⟨V, H, v3.subP (.skip .rfl), h⟩

theorem w_own_zip {elts : List Expr} {x1} {pos : Pos} {z TI TO i1 i2 l1 l2 T : Addr} {k : Nat} {Z : Led} {Q : Unit → Vals → Led → Prop} (hZ : ZipL z TI TO i1 i2 l1 l2 k (rawInt T) Z) (h : ∀ Z', ZipL z TI TO i1 i2 l1 l2 k .none Z' → Q () V (Z' ++ H)) :
    W C E (letOwnedTupleGo (.Tuple elts x1 pos) (.ref z) (.ref T)) V (Z ++ H) Q := .mk fun s v => by
  obtain ⟨a, b, o1, o2, rfl, t1, t2⟩ := hZ.ex
  exact wpAny_letOwnedTupleGo_zip (v.at (.head _)) fun h' hz' hs' => ⟨V, _, v.upd (o' := zipO TI TO .none) .head hs' hz', h _ ⟨a, b, o1, o2, rfl, t1, t2⟩⟩

theorem w_iter_zip {z TI TO i1 i2 l1 l2 : Addr} {k : Nat} {f0 : Value} {Z : Led} {Q : Value → Vals → Led → Prop} (hZ : ZipL z TI TO i1 i2 l1 l2 k f0 Z) (h : Q (.ref z) V (Z ++ H)) : W C E (pyIter (.ref z)) V (Z ++ H) Q := .mk fun s v => by
  obtain ⟨a, b, o1, o2, rfl, t1, t2⟩ := hZ.ex
  exact wpAny_pyIter_zip (v.at (.head _)) ⟨V, _, v, h⟩

/-- for one, other in zip(got, want) -/
theorem loop_zip {elts : List Expr} {x1} {tpos : Pos} {body : List Stmt} {z TI TO i1 i2 l1 l2 : Addr} {Z : Led} {vs ws : List Value} {Q : Flow → Vals → Led → Prop} (hZ : ZipL z TI TO i1 i2 l1 l2 0 .none Z) (hl : vs.length = ws.length)
    (I : Nat → Vals → Led → Prop) (hK : ∀ i V H, I i V H → Has C H l1 (tupO vs) ∧ Has C H l2 (tupO ws)) (h0 : I 0 V H)
    (step : ∀ i x y V H T Z', vs[i]? = some x → ws[i]? = some y → I i V H → W C NoE (assign (.Tuple elts x1 tpos) C.env (.ref T)) V ((T, tupO [x, y]) :: (Z' ++ H)) (fun _ V2 H2 => W C NoE (execs body C.env) V2 H2 (Turn (fun V3 H3 => ∃ H', SubP (Z' ++ H') H3 ∧ I (i + 1) V3 H') Q)))
    (fin : ∀ V H, I vs.length V H → Q .next V H) : Loop C (.Tuple elts x1 tpos) (.ref z) body V (Z ++ H) Q := by
  refine loop_inv (fun m V H => ∃ i Z H', i + m = vs.length ∧ ZipL z TI TO i1 i2 l1 l2 i .none Z ∧ SubP (Z ++ H') H ∧ I i V H') (fun m V H ⟨i, Z, H', hm, hZ, hs, hI⟩ => w_drop' hs ?_) (n := vs.length) ⟨0, Z, H, by omega, hZ, .rfl, h0⟩
  obtain ⟨k1, k2⟩ := hK _ _ _ hI
  by_cases hi : i < vs.length
  · refine w_next_zip hZ k1 k2 (List.getElem?_eq_getElem hi) (List.getElem?_eq_getElem (hl ▸ hi)) fun T Z' hZ' => ?_
    dsimp only
    refine w_own_zip hZ' fun Z'' hZ'' => ?_
    refine w_perm (H' := (T, tupO [vs[i], ws[i]]) :: (Z'' ++ H')) List.perm_middle.symm ?_
    refine (step i _ _ V H' T Z'' (List.getElem?_eq_getElem hi) (List.getElem?_eq_getElem (hl ▸ hi)) hI).mono fun _ V2 H2 q => q.mono fun f V3 H3 q => ?_
    have key : ∀ V3 H3, (∃ H', SubP (Z'' ++ H') H3 ∧ I (i + 1) V3 H') → ∃ m', m' < m ∧ ∃ i Z H', i + m' = vs.length ∧ ZipL z TI TO i1 i2 l1 l2 i .none Z ∧ SubP (Z ++ H') H3 ∧ I i V3 H' := fun V3 H3 ⟨H', a, b⟩ =>
      ⟨m - 1, by omega, i + 1, Z'', H', by omega, hZ'', a, b⟩
    cases f with
    | next => exact key _ _ q
    | cont => exact key _ _ q
    | brk => exact q
    | ret v => exact q
  · have : i = vs.length := by omega
    subst this
    exact w_end_zip hZ k1 (Nat.le_refl _) (fin _ _ hI)

/-! booleans -/
theorem w_isi {x c t : Value} {b : Bool} {Hp : Heap → Prop} {Q : Value → Vals → Led → Prop} (Z : KitX (KF C.w) x t Hp) (p : ∀ s, Vw C V H s → Hp s.heap) (e : kitOne (KF C.w) t c = some b) (hx : x ≠ .builtin "__main__.__loader__#opaque") (h : Q (.bool b) V H) :
    W C E (call (.builtin "isinstance") [x, c]) V H Q := .mk fun s v => kia_one Z v.base.kin (p s v) e hx fun tk => ⟨V, H, v.toks _, h⟩
theorem w_isi_tup {x t : Value} {tp : Addr} {its : List Value} {b : Bool} {Hp : Heap → Prop} {Q : Value → Vals → Led → Prop} (Z : KitX (KF C.w) x t Hp) (p : ∀ s, Vw C V H s → Hp s.heap) (ht : Has C H tp (tupO its)) (e : kitAny (KF C.w) t its = some b) (hx : x ≠ .builtin "__main__.__loader__#opaque") (h : Q (.bool b) V H) :
    W C E (call (.builtin "isinstance") [x, .ref tp]) V H Q := .mk fun s v => kia_tup Z v.base.kin (p s v) (ht.at v) e hx fun tk => ⟨V, H, v.toks _, h⟩
theorem w_isi_bytes_bool {x : Array UInt8} {t : Tok} {Q : Value → Vals → Led → Prop} (h : Q (.bool false) V H) : W C E (call (.builtin "isinstance") [.bytes x t, .type "bool"]) V H Q := w_isi kitx_bytes (fun _ _ => trivial) (by kernel_rfl) (by intro h; cases h) h
theorem w_isi_bytes_bytes {x : Array UInt8} {t : Tok} {Q : Value → Vals → Led → Prop} (h : Q (.bool true) V H) : W C E (call (.builtin "isinstance") [.bytes x t, .type "bytes"]) V H Q := w_isi kitx_bytes (fun _ _ => trivial) (by kernel_rfl) (by intro h; cases h) h
theorem w_ne_bool {a b : Bool} {Q : Value → Vals → Led → Prop} (h : Q (.bool (a != b)) V H) : W C E (compareOp .NotEq (.bool a) (.bool b)) V H Q := .mk fun s v => PyProof.Rows.ne_bool ⟨V, H, v, h⟩
end
-- part Re1
/-! the pattern's machine -/
noncomputable def rcode : Array Nat := #[14, 4, 0, 2, 4294967295, 17, 0, 24, 11, 0, 1, 13, 6, 16, 60, 16, 62, 0, 1, 17, 1, 17, 2, 13, 8, 22, 97, 122, 22, 65, 90, 0, 17, 3, 17, 4, 24, 9, 1, 4294967295, 13, 4, 8, 10, 0, 1, 17, 5, 17, 6, 24, 9, 0, 4294967295, 13, 4, 8, 12, 0, 1, 17, 7, 1]
noncomputable def chars : List Nat := [60, 62, 115, 117, 98, 114, 116, 112, 80, 48, 49, 50, 51, 52, 53, 54, 55, 56, 57, 32]
noncomputable def isSign (c : Nat) : Bool := c == 60 || c == 62
noncomputable def isDig (c : Nat) : Bool := 48 ≤ c && c ≤ 57
noncomputable def isKind (c : Nat) : Bool := [115, 117, 98, 114, 116, 112, 80].contains c
structure Acc (i : Nat) (P : Nat → Bool) : Prop where
  of : ∀ c ∈ chars, ∀ seen, ∃ seen', Sre.accepts rcode i c seen = .ok (P c, seen')
theorem all_chars {Q : Nat → Prop} (h60 : Q 60) (h62 : Q 62) (h115 : Q 115) (h117 : Q 117) (h98 : Q 98) (h114 : Q 114) (h116 : Q 116) (h112 : Q 112) (h80 : Q 80) (h48 : Q 48) (h49 : Q 49) (h50 : Q 50) (h51 : Q 51) (h52 : Q 52) (h53 : Q 53) (h54 : Q 54) (h55 : Q 55) (h56 : Q 56) (h57 : Q 57) (h32 : Q 32) : ∀ c ∈ chars, Q c := by
  intro c hc
  simp only [chars, List.mem_cons, List.not_mem_nil, or_false] at hc
  rcases hc with h | h | h | h | h | h | h | h | h | h | h | h | h | h | h | h | h | h | h | h <;> (subst h; assumption)
theorem acc_of {x : Except String (Bool × Sre.Seen)} {b : Bool} (h : (match x with | .ok p => some p.1 | .error _ => none) = some b) : ∃ seen', x = .ok (b, seen') := by
  cases x with
  | error e => cases h
  | ok p => obtain ⟨p1, p2⟩ := p; exact ⟨p2, by rw [show p1 = b from Option.some.inj h]⟩
theorem acc_sign : Acc 11 isSign := ⟨by apply all_chars <;> (intro seen; exact acc_of (by kernel_rfl))⟩
theorem acc_dig : Acc 40 isDig := ⟨by apply all_chars <;> (intro seen; exact acc_of (by kernel_rfl))⟩
theorem acc_sp : Acc 54 (· == 32) := ⟨by apply all_chars <;> (intro seen; exact acc_of (by kernel_rfl))⟩
theorem acc_kind : Acc 23 isKind := ⟨by apply all_chars <;> (intro seen; exact acc_of (by kernel_rfl))⟩

theorem run_acc {i : Nat} {P : Nat → Bool} (h : Acc i P) {text : Array Nat} : ∀ (n p found k : Nat) (seen : Sre.Seen), (∀ j, j < n → text.getD (p + j) 0 ∈ chars) → k ≤ n → (∀ j, j < k → P (text.getD (p + j) 0) = true) → (k < n → P (text.getD (p + k) 0) = false) →
    ∃ seen', Sre.run rcode text i n p found seen = .ok (found + k, seen')
  | 0, p, found, k, seen, _, hk, _, _ => ⟨seen, by rw [Nat.le_zero.mp hk]; rfl⟩
  | n + 1, p, found, k, seen, hc, hk, hy, hn => by
    obtain ⟨s1, e1⟩ := h.of _ (hc 0 (Nat.succ_pos _)) seen
    rw [Nat.add_zero] at e1
    unfold Sre.run
    rw [e1]
    cases k with
    | zero =>
      have := hn (Nat.succ_pos _)
      rw [Nat.add_zero] at this
      rw [this]
      exact ⟨s1, rfl⟩
    | succ k =>
      have := hy 0 (Nat.succ_pos _)
      rw [Nat.add_zero] at this
      rw [this]
      obtain ⟨s2, e2⟩ := run_acc h n (p + 1) (found + 1) k s1 (fun j hj => by have := hc (j + 1) (by omega); rwa [show p + 1 + j = p + (j + 1) by omega]) (by omega)
        (fun j hj => by have := hy (j + 1) (by omega); rwa [show p + 1 + j = p + (j + 1) by omega]) (fun hj => by have := hn (by omega); rwa [show p + 1 + k = p + (k + 1) by omega])
      exact ⟨s2, by show Sre.run rcode text i n (p + 1) (found + 1) s1 = _; rw [e2, show found + 1 + k = found + (k + 1) by omega]⟩

/-- a state of the machine -/
noncomputable def st (text : Array Nat) (lim s last : Nat) (pc pos handed : Nat) (marks : Array (Option Nat)) (lastmark lastindex : Int) (frames : List Sre.Frame) (weight : Nat) (answer : Option Bool) (seen : Sre.Seen) : Sre.M :=
  { code := rcode, text, lim, start := s, lastStart := last, pc, pos, handed, marks, lastmark, lastindex, frames, weight, answer, seen }
section
variable {text : Array Nat} {lim s last : Nat}
theorem run_next {n : Nat} {m : Sre.M} (h : m.outcome.isSome = false) : Sre.M.runFor (n + 1) m = Sre.M.runFor n m.step := by
  show (if m.outcome.isSome then m else Sre.M.runFor n m.step) = _
  rw [h]; rfl
/-- MARK -/
theorem st_mark {pc pos handed i : Nat} {marks : Array (Option Nat)} {li : Int} {frames : List Sre.Frame} {weight : Nat} {seen : Sre.Seen} (hop : rcode[pc]? = some 17) (hi : rcode[pc + 1]? = some i) :
    (st text lim s last pc pos handed marks ((i : Int) - 1) li frames weight none seen).step = st text lim s last (pc + 2) pos handed (marks.setIfInBounds i (some pos)) i (if i % 2 == 1 then ((i / 2 + 1 : Nat) : Int) else li) frames weight none (seen.add 17) := by
  have w0 : rcode.getD (pc + 0) 0 = 17 := by rw [Nat.add_zero, Array.getD_eq_getD_getElem?, hop]; rfl
  have w1 : rcode.getD (pc + 1) 0 = i := by rw [Array.getD_eq_getD_getElem?, hi]; rfl
  have hlt : pc < rcode.size := by
    obtain ⟨h, _⟩ := Array.getElem?_eq_some_iff.mp hop
    exact h
  unfold Sre.M.step st
  simp only [Option.isSome_none, Bool.false_eq_true, if_false]
  rw [if_pos hlt]
  unfold Sre.M.exec Sre.M.word
  simp only [w0]
  have e17 : Sre.ops[17]? = some Sre.Op.MARK := rfl
  rw [e17]
  simp only [Sre.M.mark, w1]
  have hle : ((i : Int) ≤ (i : Int) - 1 + 1) := by omega
  rw [if_pos hle]
  have hmax : max ((i : Int) - 1) (i : Int) = i := by omega
  rw [hmax]
/-- IN -/
theorem st_in {i : Nat} {P : Nat → Bool} {pos handed : Nat} {marks : Array (Option Nat)} {lm li : Int} {frames : List Sre.Frame} {weight : Nat} {seen : Sre.Seen} (hop : rcode[i]? = some 13) (hA : Acc i P) (hlt : pos < lim) (hc : text.getD pos 0 ∈ chars) (hP : P (text.getD pos 0) = true) :
    ∃ seen', (st text lim s last i pos handed marks lm li frames weight none seen).step = st text lim s last (i + Sre.itemWidth rcode i) (pos + 1) handed marks lm li frames weight none seen' := by
  have w0 : rcode.getD (i + 0) 0 = 13 := by rw [Nat.add_zero, Array.getD_eq_getD_getElem?, hop]; rfl
  have hlt' : i < rcode.size := by
    obtain ⟨h, _⟩ := Array.getElem?_eq_some_iff.mp hop
    exact h
  obtain ⟨s1, e1⟩ := hA.of _ hc (seen.add 13)
  rw [hP] at e1
  refine ⟨s1, ?_⟩
  unfold Sre.M.step st
  simp only [Option.isSome_none, Bool.false_eq_true, if_false]
  rw [if_pos hlt']
  unfold Sre.M.exec Sre.M.word
  simp only [w0]
  have e13 : Sre.ops[13]? = some Sre.Op.IN := rfl
  rw [e13]
  dsimp only
  rw [if_neg (by omega), e1]
/-- REPEAT_ONE -/
theorem st_rep {i skip least most : Nat} {P : Nat → Bool} {k pos handed : Nat} {marks : Array (Option Nat)} {lm li : Int} {frames : List Sre.Frame} {weight : Nat} {seen : Sre.Seen} (hop : rcode[i]? = some 24) (h1 : rcode[i + 1]? = some skip) (h2 : rcode[i + 2]? = some least) (h3 : rcode[i + 3]? = some most)
    (hA : Acc (i + 4) P) (hpos : pos ≤ lim) (hc : ∀ j, pos + j < lim → text.getD (pos + j) 0 ∈ chars) (hk : least ≤ k) (hk1 : k ≤ most) (hk2 : pos + k ≤ lim) (hy : ∀ j, j < k → P (text.getD (pos + j) 0) = true) (hn : k < most → pos + k < lim → P (text.getD (pos + k) 0) = false)
    (hw : weight < 1000) :
    ∃ seen' f, (st text lim s last i pos handed marks lm li frames weight none seen).step = st text lim s last (i + 1 + skip) (pos + k) (pos + k) marks lm li (f :: frames) (weight + 1) none seen' ∧ f.wait = .giveBack ∧ f.kept.marks = #[] ∧ f.kept.whole = false ∧ f.outermost = true := by
  have w0 : rcode.getD (i + 0) 0 = 24 := by rw [Nat.add_zero, Array.getD_eq_getD_getElem?, hop]; rfl
  have w1 : rcode.getD (i + 1) 0 = skip := by rw [Array.getD_eq_getD_getElem?, h1]; rfl
  have w2 : rcode.getD (i + 2) 0 = least := by rw [Array.getD_eq_getD_getElem?, h2]; rfl
  have w3 : rcode.getD (i + 3) 0 = most := by rw [Array.getD_eq_getD_getElem?, h3]; rfl
  have hlt' : i < rcode.size := by
    obtain ⟨h, _⟩ := Array.getElem?_eq_some_iff.mp hop
    exact h
  have hroom : (((lim : Int) - (pos : Int)).toNat) = lim - pos := by omega
  obtain ⟨s1, e1⟩ := run_acc hA (text := text) (min most (lim - pos)) pos 0 k ((seen.add 24).add (rcode.getD (i + 4) 0)) (fun j hj => hc j (by omega)) (by omega) hy (fun h => hn (by omega) (by omega))
  rw [Nat.zero_add] at e1
  refine ⟨s1, { wait := .giveBack, pc := i, pos := pos + k, outermost := true, count := (k : Nat), kept := { lastmark := lm, lastindex := li, whole := false, marks := #[] } }, ?_, rfl, rfl, rfl, rfl⟩
  unfold Sre.M.step st
  simp only [Option.isSome_none, Bool.false_eq_true, if_false]
  rw [if_pos hlt']
  unfold Sre.M.exec Sre.M.word
  simp only [w0]
  have e24 : Sre.ops[24]? = some Sre.Op.REPEAT_ONE := rfl
  rw [e24]
  dsimp only
  simp only [w1, w2, w3]
  rw [if_neg (by omega)]
  simp only [Bool.false_eq_true, if_false, hroom]
  rw [e1]
  dsimp only
  rw [if_neg (by omega)]
  unfold Sre.M.afterRun Sre.M.attempt Sre.M.word
  simp only [w1]
  rw [if_neg (by show ¬ (weight + 1 + 0 > 16777216); omega)]
  rfl
/-- SUCCESS -/
theorem st_succ {pos handed : Nat} {marks : Array (Option Nat)} {lm li : Int} {frames : List Sre.Frame} {weight : Nat} {seen : Sre.Seen} :
    (st text lim s last 62 pos handed marks lm li frames weight none seen).step = st text lim s last 62 pos pos marks lm li frames weight (some true) (seen.add 1) := rfl
/-- back from a piece that held -/
theorem st_back {pc pos handed : Nat} {marks : Array (Option Nat)} {lm li : Int} {f : Sre.Frame} {frames : List Sre.Frame} {weight : Nat} {seen : Sre.Seen} (hf : f.wait = .giveBack ∨ f.wait = .nextStart) (ho : f.outermost = true) :
    ∃ pc' pos' w', (st text lim s last pc pos handed marks lm li (f :: frames) weight (some true) seen).step = st text lim s last pc' pos' handed marks lm li frames w' (some true) seen := by
  refine ⟨f.pc, f.pos, weight - (1 + f.kept.marks.size), ?_⟩
  unfold Sre.M.step st
  simp only [Option.isSome_none, Bool.false_eq_true, if_false]
  unfold Sre.M.resume
  rcases hf with e | e <;> rw [e] <;> simp only [if_true, Sre.M.say, ho]
theorem st_end {pc pos handed : Nat} {marks : Array (Option Nat)} {lm li : Int} {weight : Nat} {seen : Sre.Seen} :
    (st text lim s last pc pos handed marks lm li [] weight (some true) seen).step = { st text lim s last pc pos handed marks lm li [] weight (some true) seen with outcome := some .matched } := rfl
theorem search_start (h1 : s + 2 ≤ lim) : ∃ last seen, Sre.forSearch rcode text 4 s lim false = st text lim s last 5 s s (Array.replicate 8 none) (-1) (-1) [{ wait := .nextStart, pc := 5, pos := s, outermost := true }] 1 none seen := by
  have hh : Sre.header rcode = (2, 5) := rfl
  refine ⟨max s (lim - (2 - 1)), ({} : Sre.Seen).add 14, ?_⟩
  unfold Sre.forSearch
  simp only [hh]
  rw [if_neg (by simp only [Bool.or_eq_true, decide_eq_true_eq, not_or]; omega)]
  rfl
theorem search_none (h1 : lim ≤ s) : ∃ m, Sre.M.runFor 4 (Sre.forSearch rcode text 4 s lim false) = m ∧ m.outcome = some .failed := by
  have hh : Sre.header rcode = (2, 5) := rfl
  unfold Sre.forSearch
  simp only [hh]
  rw [if_pos (by simp only [Bool.or_eq_true, decide_eq_true_eq]; omega)]
  exact ⟨_, rfl, rfl⟩

structure Goes (n : Nat) (m : Sre.M) (R : Sre.M → Prop) : Prop where
  r : R (Sre.M.runFor n m)
variable {R : Sre.M → Prop}
theorem go {n : Nat} {m m' : Sre.M} (h : m.outcome.isSome = false) (e : m.step = m') (k : Goes n m' R) : Goes (n + 1) m R := ⟨by rw [run_next h, e]; exact k.r⟩
theorem g_mark {n pc pos handed i pc' : Nat} {marks marks' : Array (Option Nat)} {lm lm' li li' : Int} {frames : List Sre.Frame} {weight : Nat} {seen : Sre.Seen} (hop : rcode[pc]? = some 17) (hi : rcode[pc + 1]? = some i) (hlm : lm = (i : Int) - 1)
    (hpc : pc + 2 = pc') (hm : marks.setIfInBounds i (some pos) = marks') (hlm' : (i : Int) = lm') (hli : (if i % 2 == 1 then ((i / 2 + 1 : Nat) : Int) else li) = li')
    (k : ∀ seen, Goes n (st text lim s last pc' pos handed marks' lm' li' frames weight none seen) R) : Goes (n + 1) (st text lim s last pc pos handed marks lm li frames weight none seen) R := by
  subst hlm hpc hm hlm' hli
  exact go rfl (st_mark hop hi) (k _)
theorem g_rep {n i skip least most pc' : Nat} {P : Nat → Bool} {k pos handed : Nat} {marks : Array (Option Nat)} {lm li : Int} {frames : List Sre.Frame} {weight : Nat} {seen : Sre.Seen} (hop : rcode[i]? = some 24) (h1 : rcode[i + 1]? = some skip) (h2 : rcode[i + 2]? = some least) (h3 : rcode[i + 3]? = some most)
    (hA : Acc (i + 4) P) (hpc : i + 1 + skip = pc') (hpos : pos ≤ lim) (hc : ∀ j, pos + j < lim → text.getD (pos + j) 0 ∈ chars) (hk : least ≤ k) (hk1 : k ≤ most) (hk2 : pos + k ≤ lim) (hy : ∀ j, j < k → P (text.getD (pos + j) 0) = true) (hn : k < most → pos + k < lim → P (text.getD (pos + k) 0) = false)
    (hw : weight < 1000) (kk : ∀ seen f, f.wait = .giveBack → f.outermost = true → Goes n (st text lim s last pc' (pos + k) (pos + k) marks lm li (f :: frames) (weight + 1) none seen) R) :
    Goes (n + 1) (st text lim s last i pos handed marks lm li frames weight none seen) R := by
  subst hpc
  obtain ⟨se, f, e, w, _, _, o⟩ := st_rep (handed := handed) (marks := marks) (lm := lm) (li := li) (frames := frames) (last := last) (s := s) (seen := seen) hop h1 h2 h3 hA hpos hc hk hk1 hk2 hy hn hw
  exact go rfl e (kk se f w o)
theorem g_back {n pc pos handed : Nat} {marks : Array (Option Nat)} {lm li : Int} {f : Sre.Frame} {frames : List Sre.Frame} {weight : Nat} {seen : Sre.Seen} (hf : f.wait = .giveBack ∨ f.wait = .nextStart) (ho : f.outermost = true)
    (k : ∀ pc' pos' w', Goes n (st text lim s last pc' pos' handed marks lm li frames w' (some true) seen) R) : Goes (n + 1) (st text lim s last pc pos handed marks lm li (f :: frames) weight (some true) seen) R := by
  obtain ⟨a, b, c, e⟩ := st_back (text := text) (lim := lim) (s := s) (last := last) (pc := pc) (pos := pos) (handed := handed) (marks := marks) (lm := lm) (li := li) (frames := frames) (weight := weight) (seen := seen) hf ho
  exact go rfl e (k a b c)
theorem runFor_done {m : Sre.M} (h : m.outcome.isSome = true) : ∀ n, Sre.M.runFor n m = m
  | 0 => rfl
  | n + 1 => by show (if m.outcome.isSome then m else _) = m; rw [h]; rfl

structure Found (s e : Nat) (marks : Array (Option Nat)) (m : Sre.M) : Prop where
  out : m.outcome = some .matched
  start : m.start = s
  handed : m.handed = e
  lastmark : m.lastmark = 7
  marks : m.marks = marks

theorem search_match {n0 n2 n3 : Nat} (hl : lim ≤ 1000000) (hc : ∀ j, s ≤ j → j < lim → text.getD j 0 ∈ chars) (h0 : n0 ≤ 1) (h0y : ∀ j, j < n0 → isSign (text.getD (s + j) 0) = true) (h0n : n0 < 1 → isSign (text.getD (s + n0) 0) = false)
    (hk : isKind (text.getD (s + n0) 0) = true) (h2 : 1 ≤ n2) (h2y : ∀ j, j < n2 → isDig (text.getD (s + n0 + 1 + j) 0) = true) (h2n : s + n0 + 1 + n2 < lim → isDig (text.getD (s + n0 + 1 + n2) 0) = false)
    (h3y : ∀ j, j < n3 → (text.getD (s + n0 + 1 + n2 + j) 0 == 32) = true) (h3n : s + n0 + 1 + n2 + n3 < lim → (text.getD (s + n0 + 1 + n2 + n3) 0 == 32) = false) (he : s + n0 + 1 + n2 + n3 ≤ lim) :
    Goes 20 (Sre.forSearch rcode text 4 s lim false) (Found s (s + n0 + 1 + n2 + n3) #[some s, some (s + n0), some (s + n0), some (s + n0 + 1), some (s + n0 + 1), some (s + n0 + 1 + n2), some (s + n0 + 1 + n2), some (s + n0 + 1 + n2 + n3)]) := by
  obtain ⟨last, se, e⟩ := search_start (text := text) (lim := lim) (s := s) (by omega)
  rw [e]
  refine g_mark (i := 0) rfl rfl rfl rfl rfl rfl rfl fun se => ?_
  refine g_rep (k := n0) rfl rfl rfl rfl acc_sign rfl (by omega) (fun j hj => hc _ (by omega) hj) (Nat.zero_le _) h0 (by omega) h0y (fun h _ => h0n h) (by decide) fun se f1 w1 o1 => ?_
  refine g_mark (i := 1) rfl rfl rfl rfl rfl rfl rfl fun se => ?_
  refine g_mark (i := 2) rfl rfl rfl rfl rfl rfl rfl fun se => ?_
  obtain ⟨se, e⟩ := st_in (text := text) (lim := lim) (s := s) (last := last) (i := 23) (pos := s + n0) (handed := s + n0) (marks := #[some s, some (s + n0), some (s + n0), none, none, none, none, none]) (lm := 2) (li := 1) (frames := [f1, { wait := .nextStart, pc := 5, pos := s, outermost := true }]) (weight := 2) (seen := se)
    rfl acc_kind (by omega) (hc _ (by omega) (by omega)) hk
  refine go rfl e ?_
  refine g_mark (i := 3) rfl rfl rfl rfl rfl rfl rfl fun se => ?_
  refine g_mark (i := 4) rfl rfl rfl rfl rfl rfl rfl fun se => ?_
  refine g_rep (k := n2) (skip := 9) (least := 1) (most := 4294967295) (pc' := 46) rfl rfl rfl rfl acc_dig rfl (by omega) (fun j hj => hc _ (by omega) hj) h2 (by omega) (by omega) h2y (fun _ h => h2n h) (by decide) fun se f2 w2 o2 => ?_
  refine g_mark (i := 5) rfl rfl rfl rfl rfl rfl rfl fun se => ?_
  refine g_mark (i := 6) rfl rfl rfl rfl rfl rfl rfl fun se => ?_
  refine g_rep (k := n3) (skip := 9) (least := 0) (most := 4294967295) (pc' := 60) rfl rfl rfl rfl acc_sp rfl (by omega) (fun j hj => hc _ (by omega) hj) (Nat.zero_le _) (by omega) (by omega) h3y (fun _ h => h3n h) (by decide) fun se f3 w3 o3 => ?_
  refine g_mark (i := 7) rfl rfl rfl rfl rfl rfl rfl fun se => ?_
  refine go rfl st_succ ?_
  refine g_back (.inl w3) o3 fun _ _ _ => ?_
  refine g_back (.inl w2) o2 fun _ _ _ => ?_
  refine g_back (.inl w1) o1 fun _ _ _ => ?_
  refine g_back (.inr rfl) rfl fun _ _ _ => ?_
  refine go rfl st_end ?_
  exact ⟨by rw [runFor_done rfl]; exact ⟨rfl, rfl, rfl, rfl, rfl⟩⟩
end
-- part Re2
/-- one part of a format -/
structure Piece where
  sg : List Nat
  kd : Nat
  dg : List Nat
  sp : List Nat
noncomputable def Piece.t (p : Piece) : List Nat := p.sg ++ ([p.kd] ++ (p.dg ++ p.sp))
structure Piece.Ok (p : Piece) : Prop where
  sg : p.sg = [] ∨ p.sg = [60] ∨ p.sg = [62]
  kd : p.kd ∈ [115, 117, 98, 114, 116, 112, 80]
  dg0 : p.dg ≠ []
  dg : ∀ d ∈ p.dg, 48 ≤ d ∧ d ≤ 57
  sp : p.sp = [] ∨ p.sp = [32]

theorem kind_chars : ∀ c ∈ [115, 117, 98, 114, 116, 112, 80], c ∈ chars ∧ isKind c = true ∧ isSign c = false ∧ isDig c = false ∧ (c == 32) = false := by decide
theorem dig_chars (d : Nat) (h : 48 ≤ d ∧ d ≤ 57) : d ∈ chars := by
  have : ∀ k : Fin 10, 48 + (k : Nat) ∈ chars := by decide
  have := this ⟨d - 48, by omega⟩
  rwa [show 48 + (d - 48) = d by omega] at this
theorem Piece.Ok.chars {p : Piece} (h : p.Ok) : ∀ c ∈ p.t, c ∈ chars := by
  intro c hc
  simp only [Piece.t, List.mem_append, List.mem_singleton] at hc
  rcases hc with hc | hc | hc | hc
  · rcases h.sg with e | e | e <;> rw [e] at hc
    · cases hc
    · rw [List.mem_singleton.mp hc]; decide
    · rw [List.mem_singleton.mp hc]; decide
  · rw [hc]; exact (kind_chars _ h.kd).1
  · exact dig_chars _ (h.dg _ hc)
  · rcases h.sp with e | e <;> rw [e] at hc
    · cases hc
    · rw [List.mem_singleton.mp hc]; decide
noncomputable def Head (B : List Nat) : Prop := B = [] ∨ ∃ c r, B = c :: r ∧ isDig c = false ∧ (c == 32) = false
theorem Piece.Ok.head {p : Piece} (h : p.Ok) (B : List Nat) : Head (p.t ++ B) := by
  obtain ⟨k1, k2, k3, k4, k5⟩ := kind_chars _ h.kd
  rcases h.sg with e | e | e
  · exact .inr ⟨p.kd, _, by unfold Piece.t; rw [e]; rfl, k4, k5⟩
  · exact .inr ⟨60, _, by unfold Piece.t; rw [e]; rfl, by decide, by decide⟩
  · exact .inr ⟨62, _, by unfold Piece.t; rw [e]; rfl, by decide, by decide⟩

theorem getD_add (A X : List Nat) (j : Nat) : (A ++ X).toArray.getD (A.length + j) 0 = X.getD j 0 := by
  rw [Array.getD_eq_getD_getElem?, List.getElem?_toArray, List.getElem?_append_right (by omega), List.getD_eq_getElem?_getD]
  congr 2; omega
theorem getD_left (A X : List Nat) (j : Nat) (h : j < A.length) : (A ++ X).getD j 0 = A.getD j 0 := by
  rw [List.getD_eq_getElem?_getD, List.getElem?_append_left h, List.getD_eq_getElem?_getD]
theorem getD_right (A X : List Nat) (j : Nat) (h : A.length ≤ j) : (A ++ X).getD j 0 = X.getD (j - A.length) 0 := by
  rw [List.getD_eq_getElem?_getD, List.getElem?_append_right h, List.getD_eq_getElem?_getD]
theorem getD_all {P : Nat → Prop} {A : List Nat} (h : ∀ x ∈ A, P x) (j : Nat) (hj : j < A.length) : P (A.getD j 0) := by
  rw [List.getD_eq_getElem?_getD, List.getElem?_eq_getElem hj]
  exact h _ (List.getElem_mem hj)

theorem found_piece {A B : List Nat} {p : Piece} (hp : p.Ok) (hB : Head B) (hc : ∀ c ∈ B, c ∈ chars) (hl : (A ++ (p.t ++ B)).length ≤ 1000000) :
    Goes 20 (Sre.forSearch rcode (A ++ (p.t ++ B)).toArray 4 A.length (A ++ (p.t ++ B)).length false) (Found A.length (A.length + p.t.length)
      #[some A.length, some (A.length + p.sg.length), some (A.length + p.sg.length), some (A.length + p.sg.length + 1), some (A.length + p.sg.length + 1), some (A.length + p.sg.length + 1 + p.dg.length), some (A.length + p.sg.length + 1 + p.dg.length), some (A.length + p.sg.length + 1 + p.dg.length + p.sp.length)]) := by
  have tl : p.t.length = p.sg.length + 1 + p.dg.length + p.sp.length := by simp [Piece.t]; omega
  have hlen : (A ++ (p.t ++ B)).length = A.length + p.t.length + B.length := by simp; omega
  have acc : ∀ j, (A ++ (p.t ++ B)).toArray.getD (A.length + j) 0 = (p.t ++ B).getD j 0 := fun j => getD_add A _ j
  have a0 : ∀ j, j < p.sg.length → (p.t ++ B).getD j 0 = p.sg.getD j 0 := fun j hj => by
    rw [getD_left _ _ _ (by omega)]; unfold Piece.t; rw [getD_left _ _ _ hj]
  have a1 : (p.t ++ B).getD p.sg.length 0 = p.kd := by
    rw [getD_left _ _ _ (by omega)]; unfold Piece.t; rw [getD_right _ _ _ (Nat.le_refl _), Nat.sub_self]; rfl
  have a2 : ∀ j, j < p.dg.length → (p.t ++ B).getD (p.sg.length + 1 + j) 0 = p.dg.getD j 0 := fun j hj => by
    rw [getD_left _ _ _ (by omega)]; unfold Piece.t
    rw [getD_right _ _ _ (by omega), show p.sg.length + 1 + j - p.sg.length = j + 1 by omega]
    show (p.dg ++ p.sp).getD j 0 = _
    rw [getD_left _ _ _ hj]
  have a3 : ∀ j, j < p.sp.length → (p.t ++ B).getD (p.sg.length + 1 + p.dg.length + j) 0 = p.sp.getD j 0 := fun j hj => by
    rw [getD_left _ _ _ (by omega)]; unfold Piece.t
    rw [getD_right _ _ _ (by omega), show p.sg.length + 1 + p.dg.length + j - p.sg.length = p.dg.length + j + 1 by omega]
    show (p.dg ++ p.sp).getD (p.dg.length + j) 0 = _
    rw [getD_right _ _ _ (by omega), show p.dg.length + j - p.dg.length = j by omega]
  have a4 : ∀ j, (p.t ++ B).getD (p.t.length + j) 0 = B.getD j 0 := fun j => by
    rw [getD_right _ _ _ (by omega), show p.t.length + j - p.t.length = j by omega]
  have sg1 : p.sg.length ≤ 1 := by rcases hp.sg with e | e | e <;> rw [e] <;> decide
  have sp1 : p.sp.length ≤ 1 := by rcases hp.sp with e | e <;> rw [e] <;> decide
  have dg1 : 1 ≤ p.dg.length := List.length_pos_iff.mpr hp.dg0
  obtain ⟨kk1, kk2, kk3, kk4, kk5⟩ := kind_chars _ hp.kd
  have hBn : B ≠ [] → isDig (B.getD 0 0) = false ∧ (B.getD 0 0 == 32) = false := fun hne => by
    rcases hB with e | ⟨c, r, e, h1, h2⟩
    · exact absurd e hne
    · rw [e]; exact ⟨h1, h2⟩
  have hBne : ∀ {x : Nat}, x < B.length → B ≠ [] := fun hx e => by rw [e] at hx; cases hx
  have goal := search_match (text := (A ++ (p.t ++ B)).toArray) (lim := (A ++ (p.t ++ B)).length) (s := A.length) (n0 := p.sg.length) (n2 := p.dg.length) (n3 := p.sp.length) hl
    (fun j h1 h2 => by
      rw [show j = A.length + (j - A.length) by omega, acc]
      by_cases hj : j - A.length < p.t.length
      · rw [getD_left _ _ _ hj]; exact getD_all hp.chars _ hj
      · rw [getD_right _ _ _ (by omega)]; exact getD_all hc _ (by omega))
    sg1
    (fun j hj => by
      rw [acc, a0 j hj]
      rcases hp.sg with e | e | e <;> rw [e] at hj ⊢
      · cases hj
      · have : j = 0 := by simp at hj; omega
        subst this; decide
      · have : j = 0 := by simp at hj; omega
        subst this; decide)
    (fun h => by rw [acc, a1]; exact kk3)
    (by rw [acc, a1]; exact kk2) dg1
    (fun j hj => by
      rw [show A.length + p.sg.length + 1 + j = A.length + (p.sg.length + 1 + j) by omega, acc, a2 j hj]
      have := getD_all hp.dg j hj
      simp only [isDig, Bool.and_eq_true, decide_eq_true_eq]; exact this)
    (fun h => by
      rw [show A.length + p.sg.length + 1 + p.dg.length = A.length + (p.sg.length + 1 + p.dg.length + 0) by omega, acc]
      rcases hp.sp with e | e
      · rw [show p.sg.length + 1 + p.dg.length + 0 = p.t.length + 0 by rw [tl, e]; rfl, a4]
        exact (hBn (hBne (x := 0) (by rw [tl, e, List.length_nil] at hlen; omega))).1
      · rw [a3 0 (by rw [e]; decide), e]; decide)
    (fun j hj => by
      rw [show A.length + p.sg.length + 1 + p.dg.length + j = A.length + (p.sg.length + 1 + p.dg.length + j) by omega, acc, a3 j hj]
      rcases hp.sp with e | e <;> rw [e] at hj ⊢
      · cases hj
      · have : j = 0 := by simp at hj; omega
        subst this; decide)
    (fun h => by
      rw [show A.length + p.sg.length + 1 + p.dg.length + p.sp.length = A.length + (p.t.length + 0) by omega, acc, a4]
      exact (hBn (hBne (x := 0) (by omega))).2)
    (by omega)
  rw [show A.length + p.t.length = A.length + p.sg.length + 1 + p.dg.length + p.sp.length by omega]
  exact goal
-- part Re3
theorem plain_re : PlainAttrs "re.Pattern" :=
  ⟨⟨"object.__getattribute__", by rw [typeLookup_type, builtinLookup_eq_fast]; kernel_rfl, by decide +kernel⟩, by rw [typeLookup_type, builtinLookup_eq_fast]; kernel_rfl⟩
theorem slot_findall : Slot "re.Pattern" "findall" "re.Pattern.findall" :=
  .of (owner := "re.Pattern") (n := "findall") (by rw [typeLookup_type, builtinLookup_eq_fast]; kernel_rfl) (by decide +kernel) (by decide +kernel) (by decide +kernel)
    (by first | exact .inl (by decide +kernel) | exact .inr (by decide +kernel)) (by rw [isSubtype_type]; kernel_rfl)
theorem type_findall : typeOf (.builtin "re.Pattern.findall") = pure (.type "method_descriptor") := by show builtinType _ = _; rw [builtinType_eq_fast]; kernel_rfl
theorem entry_findall : entryFor table "re.Pattern.findall" = some Builtin.«re.Pattern.findall» := entryFor_of_tree (by kernel_rfl)
theorem args_findall (a b : Value) : argsOk "re.Pattern.findall" ⟨[a, b], []⟩ := by unfold argsOk; kernel_rfl

theorem runFor_add : ∀ (a b : Nat) (m : Sre.M), Sre.M.runFor (a + b) m = Sre.M.runFor b (Sre.M.runFor a m)
  | 0, b, m => by rw [Nat.zero_add]; rfl
  | a + 1, b, m => by
    rw [Nat.add_right_comm]
    show (if m.outcome.isSome then m else Sre.M.runFor (a + b) m.step) = Sre.M.runFor b (if m.outcome.isSome then m else Sre.M.runFor a m.step)
    cases h : m.outcome.isSome with
    | true => simp only [if_true]; rw [runFor_done h]
    | false => simp only [Bool.false_eq_true, if_false]; exact runFor_add a b _

section
variable {Fx : Fn} {C : Cx Fx} {E : Value → Vals → Led → Prop} {V : Vals} {H : Led}
theorem w_forIn {α β : Type} {f : α → β → Sem (ForInStep β)} (I : Nat → β → Vals → Led → Prop) {Q : β → Vals → Led → Prop} : ∀ (l : List α) (n : Nat) (b : β) (V : Vals) (H : Led),
    (∀ i b V H x, n ≤ i → i < n + l.length → I i b V H → W C E (f x b) V H (fun r V1 H1 => ∃ b', r = .yield b' ∧ I (i + 1) b' V1 H1)) → I n b V H → (∀ b V H, I (n + l.length) b V H → Q b V H) → W C E (forIn l b f) V H Q
  | [], n, b, V, H, _, h0, fin => by rw [List.forIn_nil]; exact w_pure (fin b V H h0)
  | x :: l, n, b, V, H, step, h0, fin => by
    rw [List.forIn_cons]
    refine w_bind ((step n b V H x (Nat.le_refl _) (by simp) h0).mono fun r V1 H1 ⟨b', e, h1⟩ => ?_)
    subst e
    exact w_forIn I l (n + 1) b' V1 H1 (fun i b V H x h1 h2 => step i b V H x (by omega) (by simp; omega)) h1 (fun b V H h => fin b V H (by rw [show n + (x :: l).length = n + 1 + l.length by simp; omega]; exact h))

theorem w_reDrive {mf : Sre.M} {Q : Sre.M → Vals → Led → Prop} (hd : mf.outcome.isSome = true) (q : Q mf V H) : ∀ (k turns : Nat) (m : Sre.M), Sre.M.runFor (4 * k) m = mf → 1 ≤ k → k ≤ turns → W C E (Builtin.Re.reDrive turns m) V H Q
  | 0, _, _, _, h, _ => absurd h (by decide)
  | k + 1, 0, _, _, _, h => absurd h (by omega)
  | k + 1, turns + 1, m, e, _, ht => by
    rw [Nat.mul_add, Nat.mul_one, Nat.add_comm, runFor_add] at e
    show W C E (if (Sre.M.runFor 4 m).outcome.isSome then pure (Sre.M.runFor 4 m) else do rule "sre.turn"; Builtin.Re.reDrive turns (Sre.M.runFor 4 m)) V H Q
    cases h : (Sre.M.runFor 4 m).outcome.isSome with
    | true =>
      rw [runFor_done h] at e
      simp only [if_true]
      rw [e]; exact w_pure q
    | false =>
      simp only [Bool.false_eq_true, if_false]
      have hk : 1 ≤ k := by
        rcases Nat.eq_zero_or_pos k with rfl | h'
        · exfalso
          have e' : Sre.M.runFor 4 m = mf := e
          rw [e', hd] at h; cases h
        · exact h'
      exact w_bind (w_rule (w_reDrive hd q k turns _ e hk (by omega)))

theorem w_reRun {m : Sre.M} {k : Nat} {Q : Option Sre.M → Vals → Led → Prop} {R : Sre.M → Prop} (hk : 1 ≤ k) (hk2 : k ≤ 1000) (h : Goes (4 * k) m R) (hq : ∀ mf, R mf → (mf.outcome = some .matched ∧ Q (some mf) V H) ∨ (mf.outcome = some .failed ∧ Q none V H)) : W C E (Builtin.Re.reRunToEnd m) V H Q := by
  obtain ⟨mf, hmf⟩ : ∃ mf, mf = Sre.M.runFor (4 * k) m := ⟨_, rfl⟩
  have hR := h.r
  rw [← hmf] at hR
  have ho : mf.outcome.isSome = true := by rcases hq mf hR with h | h <;> rw [h.1] <;> rfl
  unfold Builtin.Re.reRunToEnd
  refine w_bind (w_reDrive ho ?_ k (2 ^ 64) m hmf.symm hk (by omega))
  refine w_bind (w_forIn (fun _ _ V' H' => V' = V ∧ H' = H) _ 0 _ V H ?_ ⟨rfl, rfl⟩ ?_)
  · rintro i b V' H' x _ _ ⟨rfl, rfl⟩
    cases mf.seen.has x with
    | true => simp only [if_true]; exact w_bind (w_rule (w_pure ⟨_, rfl, rfl, rfl⟩))
    | false => simp only [Bool.false_eq_true, if_false]; exact w_pure ⟨_, rfl, rfl, rfl⟩
  · rintro b V' H' ⟨rfl, rfl⟩
    rcases hq mf hR with h | h
    · rw [h.1]; exact w_pure h.2
    · rw [h.1]; exact w_pure h.2
end
-- part Re4
noncomputable def Cx.in1 {F : Fn} (C : Cx F) (h : 1 ≤ C.n) : Cx F :=
  { C with A := C.A.in1, n := C.n - 1, aok := ⟨C.aok.hnd, by have := C.aok.dep; show C.A.depth + (C.n - 1) ≤ 900; omega, by have := C.aok.uni; show C.A.units + 1 + 8 * (C.n - 1) ≤ 9000; omega, C.aok.fr, C.aok.gd⟩ }
theorem Vw.in1 {F : Fn} {C : Cx F} {V : Vals} {H : Led} {s : Shared} (h : 1 ≤ C.n) (v : Vw C V H s) : Vw (C.in1 h) V H s := ⟨v.fr, v.nw, v.nd, v.gens, v.os⟩
theorem Vw.of1 {F : Fn} {C : Cx F} {V : Vals} {H : Led} {s : Shared} {h : 1 ≤ C.n} (v : Vw (C.in1 h) V H s) : Vw C V H s := ⟨v.fr, v.nw, v.nd, v.gens, v.os⟩
/-- a builtin's own tree -/
theorem w_entry {F : Fn} {C : Cx F} {E : Value → Vals → Led → Prop} {V : Vals} {H : Led} {T : String} {name : Str} {id : String} {self : Value} {rest : List Value} {b : Builtin} {Q : Value → Vals → Led → Prop} (hn : 1 ≤ C.n) (slot : Slot T name id) (hT : ∀ s, Vw C V H s → s.TypeIs self T) (entry : entryFor table id = some b) (args : argsOk id ⟨self :: rest, []⟩)
    (h : W (C.in1 hn) E (b ⟨self :: rest, []⟩) V H (fun fin V' H' => ∃ x, fin = .done (.ret x) ∧ Q x V' H')) : W C E (call (.builtin id) (self :: rest)) V H Q := .mk fun s v =>
  wpAny_call_entry slot (hT s v) entry (wpAny_mono (h.run s (v.in1 hn)) (fun fin s' ⟨V', H', v', x, e, q⟩ => ⟨x, e, V', H', v'.of1, q⟩) fun e s' ⟨V', H', v', q⟩ => ⟨V', H', v'.of1, q⟩) args
section
variable {Fx : Fn} {C : Cx Fx} {E : Value → Vals → Led → Prop} {V : Vals} {H : Led}
noncomputable def patO : Obj := match (hd.heap_39 dummyP).lookup 64 with | some o => o | none => default
noncomputable def patC : Obj := match (hd.heap_39 dummyP).lookup 63 with | some o => o | none => default
theorem w_reTarget {l : List Nat} {t : Tok} {Q : Builtin.Re.ReTarget → Vals → Led → Prop} (hl : l.length ≤ 1000000)
    (h : Q { pattern := .ref 64, string := .str (S l) t, code := rcode, text := l.toArray, kind := 0, groups := 4, pos := 0, lim := l.length } V H) :
    W C E (Builtin.Re.reTarget "re.Pattern.findall" "findall" ⟨[.ref 64, .str (S l) t], []⟩) V H Q := .mk fun s v => by
  have k64 : (KF C.w).lookup 64 = some patO := by kernel_rfl
  have k63 : (KF C.w).lookup 63 = some patC := by kernel_rfl
  have h64 := v.base.kin _ _ k64
  have h63 := v.base.kin _ _ k63
  obtain ⟨tk1, tk2, hdat⟩ : ∃ tk1 tk2, patO.data = .fields #[.str (Str.ofString "([<>]?)([a-zA-Z])(\\d+)(\\s*)") tk1, .int 32 tk2, .int 4 0, .none, .none, .ref 63, .int 0 0] := ⟨399, 465, by kernel_rfl⟩
  have hdat2 : patC.data = .seq (rcode.map fun (i : Nat) => Value.int (i : Int) 0) 0 := by kernel_rfl
  unfold Builtin.Re.reTarget
  refine wpAny_bind (wpAny_of_eq (a := [some (.str (S l) t), none, none]) (by kernel_rfl) ?_)
  dsimp only
  refine wpAny_bind (wpAny_pure ?_)
  refine wpAny_bind (wpAny_pure ?_)
  refine wpAny_bind (wpAny_fieldsOf h64 hdat ?_)
  refine wpAny_bind (wpAny_of_eq (a := ((S l).cps, 0)) (by kernel_rfl) ?_)
  dsimp only
  refine KTBy.if_not rfl ?_
  refine KTBy.if_not rfl ?_
  refine wpAny_bind (wpAny_of_eq (a := ()) rfl ?_)
  show wpAny _ _ (Builtin.Re.reRawItems (.ref 63) >>= _) _ _ s
  refine wpAny_bind ?_
  unfold Builtin.Re.reRawItems
  refine wpAny_bind (wpAny_seqItems h63 hdat2 (wpAny_pure (wpAny_pure ⟨V, H, v, ?_⟩)))
  have e1 : Array.map (fun x : Int => x.toNat) (Array.map Builtin.Re.reRawOf ((some (rcode.map fun (i : Nat) => Value.int (i : Int) 0)).getD #[])) = rcode := by
    rw [Option.getD_some, Array.map_map, Array.map_map]
    have : (((fun x : Int => x.toNat) ∘ Builtin.Re.reRawOf) ∘ fun (i : Nat) => Value.int (i : Int) 0) = id := by funext i; exact Int.toNat_natCast i
    rw [this, Array.map_id]
  have e2 : min (Int.toNat (2 ^ 63 - 1)) l.toArray.size = l.length := by simp; omega
  have e3 : min (Int.toNat 0) l.toArray.size = 0 := by simp
  have h' := h
  rw [← e1, ← e2, ← e3] at h'
  exact h'

variable {Q : Value → Vals → Led → Prop}
noncomputable def pieceVs (p : Piece) (t1 t2 t3 t4 : Tok) : List Value := [.str (S p.sg) t1, .str (S [p.kd]) t2, .str (S p.dg) t3, .str (S p.sp) t4]
/-- what findall gives -/
inductive PieceL : List Piece → List Value → Led → Prop
  | nil : PieceL [] [] []
  | snoc {ps : List Piece} {vs : List Value} {L : Led} {p : Piece} {a : Addr} {t1 t2 t3 t4 : Tok} : PieceL ps vs L → PieceL (ps ++ [p]) (vs ++ [.ref a]) ((a, tupO (pieceVs p t1 t2 t3 t4)) :: L)
theorem extract_mid (A X B : List Nat) : (A ++ (X ++ B)).toArray.extract A.length (A.length + X.length) = X.toArray := by
  simp
theorem w_reSlice {A X B : List Nat} {b e : Nat} {l : List Nat} {Q : Value → Vals → Led → Prop} (hl : l = A ++ (X ++ B)) (hb : b = A.length) (he : e = A.length + X.length) (hz : X.length ≤ 1000000) (h : ∀ t, Q (.str (S X) t) V H) : W C E (Builtin.Re.reSlice l.toArray 0 b e) V H Q := .mk fun s v => by
  subst hl hb he
  show wpAny _ _ (mkStr ⟨_⟩) _ _ s
  rw [extract_mid]
  exact wpAny_mkStr ⟨V, H, v.toks _, h _⟩ (line_le (by rw [S_len]; omega))

theorem w_group {tg : Builtin.Re.ReTarget} {m : Sre.M} {marks : Array (Option Nat)} {A X B : List Nat} {l : List Nat} {g st e b en : Nat} {dflt : Sem Value} {Q : Value → Vals → Led → Prop} (hf : Found st e marks m) (hg : g + 1 ≤ 4) (h1 : marks[2 * g]? = some (some b)) (h2 : marks[2 * g + 1]? = some (some en))
    (ht : tg.text = l.toArray) (hk : tg.kind = 0) (hl : l = A ++ (X ++ B)) (hb : b = A.length) (he : en = A.length + X.length) (hz : X.length ≤ 1000000) (h : ∀ t, Q (.str (S X) t) V H) : W C E (Builtin.Re.reMachineGroup tg m (g + 1) dflt) V H Q := by
  unfold Builtin.Re.reMachineGroup
  rw [hf.lastmark, hf.marks]
  simp only [Nat.add_sub_cancel]
  rw [if_neg (by omega), Array.getD_eq_getD_getElem?, Array.getD_eq_getD_getElem?, h1, h2]
  dsimp only [Option.getD_some]
  rw [if_neg (by omega), ht, hk]
  exact w_reSlice hl hb he hz h
theorem flat_split (ps : List Piece) (i : Nat) (hi : i < ps.length) : ps.flatMap Piece.t = (ps.take i).flatMap Piece.t ++ (ps[i].t ++ (ps.drop (i + 1)).flatMap Piece.t) := by
  conv => lhs; rw [← List.take_append_drop i ps]
  rw [List.flatMap_append, List.drop_eq_getElem_cons hi, List.flatMap_cons]
theorem head_flat {ps : List Piece} (h : ∀ p ∈ ps, p.Ok) : Head (ps.flatMap Piece.t) := by
  cases ps with
  | nil => exact .inl rfl
  | cons p r => rw [List.flatMap_cons]; exact (h p (.head _)).head _
theorem chars_flat {ps : List Piece} (h : ∀ p ∈ ps, p.Ok) : ∀ c ∈ ps.flatMap Piece.t, c ∈ chars := by
  intro c hc
  obtain ⟨p, hp, hc⟩ := List.mem_flatMap.mp hc
  exact (h p hp).chars c hc
theorem len_flat {ps : List Piece} (h : ∀ p ∈ ps, p.Ok) : ps.length ≤ (ps.flatMap Piece.t).length := by
  induction ps with
  | nil => exact Nat.le_refl _
  | cons p r ih =>
    have := ih fun q hq => h q (.tail _ hq)
    rw [List.flatMap_cons, List.length_append, List.length_cons]
    have : 1 ≤ p.t.length := by simp [Piece.t]; omega
    omega
theorem w_findall {ps : List Piece} {t : Tok} (hn : 1 ≤ C.n) (hp : ∀ p ∈ ps, p.Ok) (hl : (ps.flatMap Piece.t).length ≤ 1000) (h : ∀ a vs L, PieceL ps vs L → Q (.ref a) V ((a, listO vs 0) :: L ++ H)) :
    W C E (call (.builtin "re.Pattern.findall") [.ref 64, .str (S (ps.flatMap Piece.t)) t]) V H Q := by
  have k64 : (KF C.w).lookup 64 = some patO := by kernel_rfl
  have hcl : patO.cls = .type "re.Pattern" := by kernel_rfl
  refine w_entry hn slot_findall (fun s v => ⟨_, v.base.kin _ _ k64, hcl⟩) entry_findall (args_findall _ _) ?_
  unfold Builtin.«re.Pattern.findall»
  refine w_bind (w_reTarget (by omega) ?_)
  dsimp only
  obtain ⟨l, hl0⟩ : ∃ l, l = ps.flatMap Piece.t := ⟨_, rfl⟩
  rw [← hl0] at hl ⊢
  refine w_bind (w_forIn (fun i b V' H' => V' = V ∧ ∃ k vs L, k ≤ ps.length ∧ PieceL (ps.take k) vs L ∧ H' = L ++ H ∧ b.1 = vs.toArray ∧ b.2.1 = ((ps.take k).flatMap Piece.t).length ∧ b.2.2.1 = false ∧ ((b.2.2.2 = false ∧ k = i) ∨ (b.2.2.2 = true ∧ k = ps.length))) _ 0 _ V H ?_
    ⟨rfl, 0, [], [], Nat.zero_le _, .nil, rfl, rfl, rfl, rfl, .inl ⟨rfl, rfl⟩⟩ ?_)
  · rintro i ⟨out, start, must, over⟩ V' H' x _ hi ⟨rfl, k, vs, L, hk, hL, rfl, h1, h2, h3, h4⟩
    dsimp only at h1 h2 h3 h4
    subst h1 h2 h3
    rcases h4 with ⟨rfl, rfl⟩ | ⟨rfl, rfl⟩
    · simp only [Bool.not_false, if_true]
      by_cases hkl : k < ps.length
      · have hsp := flat_split ps k hkl
        rw [← hl0] at hsp
        have hpk := hp _ (List.getElem_mem hkl)
        have hdrop : ∀ p ∈ ps.drop (k + 1), p.Ok := fun p hm => hp p (List.mem_of_mem_drop hm)
        obtain ⟨A, hA⟩ : ∃ A, A = (ps.take k).flatMap Piece.t := ⟨_, rfl⟩
        obtain ⟨B, hB⟩ : ∃ B, B = (ps.drop (k + 1)).flatMap Piece.t := ⟨_, rfl⟩
        obtain ⟨p, hpp⟩ : ∃ p, p = ps[k] := ⟨_, rfl⟩
        have hf := found_piece (A := A) (B := B) hpk (hB ▸ head_flat hdrop) (hB ▸ chars_flat hdrop) (by rw [hA, hB, ← hsp]; omega)
        rw [← hpp] at hpk
        rw [← hA, ← hB, ← hpp] at hsp
        rw [← hpp, ← hsp] at hf
        rw [← hA]
        have hlen : l.length = A.length + p.t.length + B.length := by rw [hsp]; simp; omega
        rw [if_neg (by omega)]
        unfold Builtin.Re.reNextFound
        refine w_bind (w_reRun (k := 5) (by decide) (by decide) hf fun mf hfound => .inl ⟨hfound.out, ?_⟩)
        dsimp only
        have er : List.range 4 = [0, 1, 2, 3] := rfl
        rw [er]
        simp only [List.mapM_cons, List.mapM_nil, bind_assoc, pure_bind]
        have e1 : l = A ++ (p.sg ++ ([p.kd] ++ (p.dg ++ p.sp) ++ B)) := by rw [hsp]; simp [Piece.t]
        have e2 : l = (A ++ p.sg) ++ ([p.kd] ++ (p.dg ++ p.sp ++ B)) := by rw [hsp]; simp [Piece.t]
        have e3 : l = (A ++ p.sg ++ [p.kd]) ++ (p.dg ++ (p.sp ++ B)) := by rw [hsp]; simp [Piece.t]
        have e4 : l = (A ++ p.sg ++ [p.kd] ++ p.dg) ++ (p.sp ++ B) := by rw [hsp]; simp [Piece.t]
        have pl : p.t.length = p.sg.length + 1 + p.dg.length + p.sp.length := by simp [Piece.t]; omega
        refine w_bind (w_group (g := 0) hfound (by decide) rfl rfl rfl rfl e1 rfl rfl (by omega) fun t1 => ?_)
        refine w_bind (w_group (g := 1) hfound (by decide) rfl rfl rfl rfl e2 (by simp) (by simp; try omega) (by simp) fun t2 => ?_)
        refine w_bind (w_group (g := 2) hfound (by decide) rfl rfl rfl rfl e3 (by simp; try omega) (by simp; try omega) (by omega) fun t3 => ?_)
        refine w_bind (w_group (g := 3) hfound (by decide) rfl rfl rfl rfl e4 (by simp; try omega) (by simp; try omega) (by omega) fun t4 => ?_)
        refine w_bind (w_newTuple (fun a => ?_) (line_le (by simp)))
        refine w_pure ⟨_, rfl, rfl, k + 1, vs ++ [.ref a], (a, tupO (pieceVs p t1 t2 t3 t4)) :: L, hkl, ?_, rfl, ?_, ?_, ?_, .inl ⟨rfl, rfl⟩⟩
        · rw [List.take_succ_eq_append_getElem hkl, ← hpp]; exact .snoc hL
        · show vs.toArray.push _ = _; simp
        · show mf.handed = _
          rw [hfound.handed, List.take_succ_eq_append_getElem hkl, ← hpp, List.flatMap_append, ← hA]; simp
        · show (mf.handed == mf.start) = false
          rw [hfound.handed, hfound.start]
          exact beq_false_of_ne (by omega)
      · have : k = ps.length := by omega
        subst this
        rw [List.take_length, ← hl0, if_neg (by omega)]
        unfold Builtin.Re.reNextFound
        obtain ⟨m, hm, ho⟩ := search_none (text := l.toArray) (s := l.length) (lim := l.length) (Nat.le_refl _)
        refine w_bind (w_reRun (k := 1) (by decide) (by decide) (R := fun m => m.outcome = some .failed) ⟨by rw [Nat.mul_one]; dsimp only; rw [hm]; exact ho⟩ fun mf hf => .inr ⟨hf, ?_⟩)
        refine w_pure ⟨_, rfl, rfl, ps.length, vs, L, Nat.le_refl _, hL, rfl, rfl, ?_, rfl, .inr ⟨rfl, rfl⟩⟩
        rw [List.take_length, ← hl0]
    · simp only [Bool.not_true, Bool.false_eq_true, if_false]
      exact w_pure ⟨_, rfl, rfl, ps.length, vs, L, Nat.le_refl _, hL, rfl, rfl, rfl, rfl, .inr ⟨rfl, rfl⟩⟩
  · rintro ⟨out, start, must, over⟩ V' H' ⟨rfl, k, vs, L, hk, hL, rfl, h1, h2, h3, h4⟩
    dsimp only at h1 h2 h3 h4
    subst h1 h2 h3
    have hlen := len_flat hp
    rw [← hl0] at hlen
    rcases h4 with ⟨rfl, rfl⟩ | ⟨rfl, rfl⟩
    · exfalso
      unfold Builtin.Re.reMostMatches at hk
      simp at hk
      omega
    · simp only [Bool.not_true, Bool.false_eq_true, if_false]
      rw [List.take_length] at hL
      have hvs : vs.length = ps.length := by
        clear hp hl h hk hlen hl0
        induction hL with
        | nil => rfl
        | snoc _ ih => simp [ih]
      refine w_bind (w_newList (fun a => w_pure ⟨_, rfl, ?_⟩) (line_le (by show vs.toArray.toList.length ≤ _; simp; omega)))
      exact h a vs L hL
end
-- part Ru12
theorem lk_str_int : typeLookup (.type "str") "__int__" = pure none := by rw [typeLookup_type, builtinLookup_eq_fast]; kernel_rfl
theorem lk_str_index : typeLookup (.type "str") "__index__" = pure none := by rw [typeLookup_type, builtinLookup_eq_fast]; kernel_rfl
theorem lk_str_trunc : typeLookup (.type "str") "__trunc__" = pure none := by rw [typeLookup_type, builtinLookup_eq_fast]; kernel_rfl
theorem gives_text1 {x : PySem.Str} {u : Tok} {n : Int} (hall : x.cps.all (· < 128) = true) (hs : (x.cps.toList.takeWhile (· != 0)).length ≤ 640)
    (hr : (int_private% "readNumeral") 0 10 (x.cps.toList.takeWhile (· != 0)) = (int_private% "Numeral.value") n) (ha : ((x.cps.toList.takeWhile (· != 0)).length == x.cps.toList.length) = true) :
    Gives (Builtin.«int.__new__» ⟨[.type "int", .str x u], []⟩) (.int n) :=
  .of_wp fun M A E s Q h => by
    have hk := Hid.mk (And.intro hs (And.intro hr (And.intro ha hall)))
    clear hs hr ha hall
    obtain ⟨hp, g, d, tk, os⟩ := s
    have f1 := F.conv_sub_int
    have f2 := F.madeHere_int
    have hT : (⟨hp, g, d, tk, os⟩ : Shared).TypeIs (.str x u) "str" := rfl
    have f3 := lk_str_int
    have f4 := lk_str_index
    have f5 := lk_str_trunc
    repeat (any_goals (first
      | assumption
      | ((with_reducible show wpAny _ _ ((int_private% "intFromText") _ _ _) _ _ _); rw [if_pos hk.out.2.2.2]; refine wp_text2 hk.out.1 hk.out.2.1 hk.out.2.2.1 ?_)
      | (with_reducible refine wpAny_ite_true hk.out.2.2.2 ?_)
      | wp_step))
    all_goals first | exact ⟨_, rfl, h⟩ | skip
theorem read10 (n : Nat) (h : n < 30) : (int_private% "readNumeral") 0 10 ((S (decL n)).cps.toList.takeWhile (· != 0)) = (int_private% "Numeral.value") (n : Int) := by
  have : n = 0 ∨ n = 1 ∨ n = 2 ∨ n = 3 ∨ n = 4 ∨ n = 5 ∨ n = 6 ∨ n = 7 ∨ n = 8 ∨ n = 9 ∨ n = 10 ∨ n = 11 ∨ n = 12 ∨ n = 13 ∨ n = 14 ∨ n = 15 ∨ n = 16 ∨ n = 17 ∨ n = 18 ∨ n = 19 ∨ n = 20 ∨ n = 21 ∨ n = 22 ∨ n = 23 ∨ n = 24 ∨ n = 25 ∨ n = 26 ∨ n = 27 ∨ n = 28 ∨ n = 29 := by omega
  rcases this with rfl | rfl | rfl | rfl | rfl | rfl | rfl | rfl | rfl | rfl | rfl | rfl | rfl | rfl | rfl | rfl | rfl | rfl | rfl | rfl | rfl | rfl | rfl | rfl | rfl | rfl | rfl | rfl | rfl | rfl
  all_goals kernel_rfl
theorem decL_facts : ∀ n : Fin 30, (S (decL n)).cps.all (· < 128) = true ∧ ((S (decL n)).cps.toList.takeWhile (· != 0)).length ≤ 640 ∧ (((S (decL n)).cps.toList.takeWhile (· != 0)).length == (S (decL n)).cps.toList.length) = true ∧ (decL n ≠ []) ∧ (∀ d ∈ decL n, 48 ≤ d ∧ d ≤ 57) ∧ (decL n).length ≤ 2 := by decide +kernel
section
variable {Fx : Fn} {C : Cx Fx} {E : Value → Vals → Led → Prop} {V : Vals} {H : Led} {t u : Tok} {Q : Value → Vals → Led → Prop}
theorem call_int_1 {prog : Program} {w : World} {A : Around} {E : Value → Shared → Prop} {s : Shared} {x : Value} {S : PySem.Spec} {Q : Value → Shared → Prop} (g : Meets (Builtin.«int.__new__» ⟨[.type "int", x], []⟩) S) (h : S A.in1 (wants (fun obj s₁ => s₁.TypeIs obj "int" ∧ Q obj s₁) E) s) :
    wpAny (model prog w) A (call (.type "int") [x]) Q E s :=
  callType_new F.called_int F.newNe_int (F.typeCall_int_1 x) (F.newCall_int_1 x) (fun obj => F.args_object_init_2 obj x) F.entry_int_new g h
theorem w_int_dec {n : Nat} (hn : n < 30) (h : ∀ t, Q (.int n t) V H) : W C E (call (.type "int") [.str (S (decL n)) t]) V H Q := .mk fun s v => by
  obtain ⟨a, b, c, _⟩ := decL_facts ⟨n, hn⟩
  exact call_int_1 (gives_text1 (x := S (decL n)) (n := n) a b (read10 n hn) c).meets (show (Made.int (n : Int)).post _ s from ⟨rfl, V, H, v.toks _, h _⟩)
theorem w_pat_m {pl : Sem Bool} {Q : Value × List Value → Vals → Led → Prop} (h : Q (.builtin "re.Pattern.findall", [.ref 64]) V H) : W C E (getMethod (.ref 64) (Str.ofString "findall") pl) V H Q := .mk fun s v => by
  have k64 : (KF C.w).lookup 64 = some patO := by kernel_rfl
  have hcl : patO.cls = .type "re.Pattern" := by kernel_rfl
  have hdi : patO.dict = none := by kernel_rfl
  exact getMethod_builtin ⟨_, v.base.kin _ _ k64, hcl⟩ plain_re slot_findall type_findall (fun a e => by cases e; exact ⟨_, v.base.kin _ _ k64, hdi⟩) ⟨V, H, v, h⟩
end
-- part F9
local macro_rules | `(tactic| ktn_call 1 7) => `(tactic| with_reducible first
  | apply w_tobytes_m
  | (apply w_str_m; apply F.slot_str_join; apply F.type_str_join)
  | (apply w_list_m; apply F.slot_list_extend; apply F.type_list_extend; got_up))
local macro_rules | `(tactic| ktn_call 1 5) => `(tactic| with_reducible first
  | apply w_isi_int_bool
  | apply w_isi_int_bytes
  | apply w_isi_str_bool
  | apply w_isi_str_bytes
  | apply w_isi_bool_bool
  | apply w_isi_bool_bytes)
local macro_rules | `(tactic| ktn_call 1 5) => `(tactic| with_reducible first
  | apply w_isi_bytes_bool
  | apply w_isi_bytes_bytes)
/-! one field of the plan -/
inductive FG : Nat → Nat → Nat → PV → PV → Prop
  | u {size num : Nat} : 1 ≤ size → size ≤ 19 → num < 2 ^ size → FG 117 size num (.int num) (.int num)
  | s {size num : Nat} {i : Int} : 1 ≤ size → size ≤ 19 → -((2 ^ (size - 1) : Nat) : Int) ≤ i → i < ((2 ^ (size - 1) : Nat) : Int) → (num : Int) = i % ((2 ^ size : Nat) : Int) → FG 115 size num (.int i) (.int i)
  | b {size n : Nat} : 1 ≤ size → size ≤ 19 → n ≤ 2 → FG 98 size (min n 1) (.int n) (.bool (decide (0 < (n : Int))))
  | r {size num x : Nat} : 1 ≤ size → size ≤ 19 → num < 2 ^ size → x < 2 ^ (8 * ((size + 7) / 8) - size) →
      FG 114 size num (.bytes (bytesN ((size + 7) / 8) (num * 2 ^ (8 * ((size + 7) / 8) - size) + x))) (.bytes (bytesN ((size + 7) / 8) (num * 2 ^ (8 * ((size + 7) / 8) - size))))
  | t {c k : Nat} : 97 ≤ c → c < 123 → 1 ≤ k → k ≤ 2 → FG 116 (8 * k) (c * 2 ^ (8 * k - 8)) (.str [c]) (.str (c :: List.replicate (k - 1) 0))
  | t3 {c d : Nat} : 97 ≤ c → c < 123 → 192 ≤ d → d < 252 → FG 116 24 (c * 65536 + 195 * 256 + 128 + d % 64) (.str [c, d]) (.str [c, d])
  | p {size : Nat} : 1 ≤ size → size ≤ 19 → FG 112 size 0 .none .none
  | P {size : Nat} : 1 ≤ size → size ≤ 19 → FG 80 size (2 ^ size - 1) .none .none

set_option maxHeartbeats 1000000 in
theorem field_sp {w : World} {kind wide drawn : Nat} {t1 t2 t3 : Tok} (hk : kind ∈ [117, 115, 98, 114, 116, 112, 80]) :
    Sp w 1 (call (.ref 581) [.str (S [kind]) t1, .int wide t2, .int drawn t3]) [] (fun _ => True) (fun v P' => ∃ a size num val back t4 t5 v1 v2, FG kind size num val back ∧ val.Is v1 ∧ back.Is v2 ∧ v = .ref a ∧ P' = [(a, tupO [.int (size : Nat) t4, .int (num : Nat) t5, v1, v2])]) NoX := by
  refine Sp.def (F := fn_field) (n := 0) (vals := [_, _, _]) (field_is w) rfl rfl (fun s A p => BindsTo.of_eq (by kernel_rfl)) (by show 3 ≤ 13; decide)
    (V₀ := [some (.str (S [kind]) t1), some (.int wide t2), some (.int drawn t3), none, none, none, none, none, none, none, none, none, none]) rfl (fun C hw hn _ => W.shrink ?_)
  have ok := (field_is w).ok
  walk_at "ww"
  refine w_mod_int (by decide) fun t4 => ?_
  walk_at "ww"
  obtain ⟨size, hsize⟩ : ∃ size : Nat, size = 1 + wide % 19 := ⟨_, rfl⟩
  have hs1 : 1 ≤ size := by omega
  have hs2 : size ≤ 19 := by omega
  rw [show (1 : Int) + (wide : Int) % 19 = (size : Int) by omega]
  have p0 : 0 < 2 ^ size := Nat.two_pow_pos _
  have pz : (0 : Int) < ((2 ^ size : Nat) : Int) := by omega
  refine w_If ?_
  walk_at "ww"
  refine ⟨fun h => ?_, fun h0 => ?_⟩
  · walk_at "ww"
    have hk : kind = 117 := by simpa using h
    subst hk
    refine w_pow_int (n := size) (by omega) rfl (by decide) fun t6 => ?_
    rw [powC]
    refine w_mod_int pz fun t7 => ?_
    rw [← Int.natCast_emod]
    walk_at "ww"
    refine w_newTuple (fun a => ?_) (line_le (by simp))
    walk_at "ww"
    exact ⟨_, .take .here .nil, a, size, _, _, _, _, _, _, _, .u hs1 hs2 (Nat.mod_lt _ p0), ⟨_, rfl⟩, ⟨_, rfl⟩, rfl, rfl⟩
  walk_at "ww"
  refine w_If ?_
  walk_at "ww"
  refine ⟨fun h => ?_, fun h1 => ?_⟩
  · walk_at "ww"
    have hk : kind = 115 := by simpa using h
    subst hk
    refine w_pow_int (n := size) (by omega) rfl (by decide) fun t6 => ?_
    rw [powC]
    refine w_mod_int pz fun t7 => ?_
    rw [← Int.natCast_emod]
    walk_at "ww"
    refine w_pow_int (n := size - 1) (by omega) (by omega) (by decide) fun t8 => ?_
    rw [powC]
    walk_at "ww"
    refine w_pow_int (n := size) (by omega) rfl (by decide) fun t10 => ?_
    rw [powC]
    refine w_mod_int pz fun t11 => ?_
    walk_at "ww"
    have e2 : 2 ^ size = 2 ^ (size - 1) * 2 := by rw [← Nat.pow_succ]; congr 1; omega
    have lt := Nat.mod_lt drawn p0
    have nn := Int.emod_nonneg (((drawn % 2 ^ size : Nat) : Int) - ((2 ^ (size - 1) : Nat) : Int)) (Int.ne_of_gt pz)
    obtain ⟨num, hnum⟩ := Int.eq_ofNat_of_zero_le nn
    rw [hnum]
    refine w_newTuple (fun a => ?_) (line_le (by simp))
    walk_at "ww"
    exact ⟨_, .take .here .nil, a, size, num, _, _, _, _, _, _, .s hs1 hs2 (by omega) (by omega) hnum.symm, ⟨_, rfl⟩, ⟨_, rfl⟩, rfl, rfl⟩
  walk_at "ww"
  refine w_If ?_
  walk_at "ww"
  refine ⟨fun h => ?_, fun h2 => ?_⟩
  · walk_at "ww"
    have hk : kind = 98 := by simpa using h
    subst hk
    refine w_mod_int (by decide) fun t7 => ?_
    walk_at "ww"
    refine w_min2 fun t8 => ?_
    walk_at "ww"
    rw [show min ((drawn : Int) % 3) 1 = ((min (drawn % 3) 1 : Nat) : Int) by omega, show (drawn : Int) % 3 = ((drawn % 3 : Nat) : Int) by omega]
    refine w_newTuple (fun a => ?_) (line_le (by simp))
    walk_at "ww"
    exact ⟨_, .take .here .nil, a, size, _, _, _, _, _, _, _, .b hs1 hs2 (by omega), ⟨_, rfl⟩, rfl, rfl, rfl⟩
  walk_at "ww"
  refine w_If ?_
  walk_at "ww"
  refine ⟨fun h => ?_, fun h3 => ?_⟩
  · walk_at "ww"
    have hk : kind = 114 := by simpa using h
    subst hk
    refine w_div_int (m := 4) (by decide) (by decide) (by decide) fun t6 => ?_
    obtain ⟨whole, hwh⟩ : ∃ whole : Nat, whole = (size + 7) / 8 := ⟨_, rfl⟩
    rw [show ((size : Int) + 7) / 8 = (whole : Int) by omega]
    walk_at "ww"
    refine w_mul_int (m := 4) (n := 7) (by decide) (by omega) (by decide) fun t7 => ?_
    walk_at "ww"
    obtain ⟨rest, hrest⟩ : ∃ rest : Nat, rest = 8 * whole - size := ⟨_, rfl⟩
    rw [show (8 : Int) * (whole : Int) - (size : Int) = (rest : Int) by omega]
    have r0 : 0 < 2 ^ rest := Nat.two_pow_pos _
    refine w_pow_int (n := size) (by omega) rfl (by decide) fun t8 => ?_
    rw [powC]
    refine w_mod_int pz fun t9 => ?_
    rw [← Int.natCast_emod]
    walk_at "ww"
    refine w_pow_int (n := rest) (by omega) rfl (by decide) fun t10 => ?_
    rw [powC]
    have lt := Nat.mod_lt drawn p0
    have l19 : 2 ^ size ≤ 2 ^ 19 := pow_lt_pow_two hs2
    have l8 : 2 ^ rest ≤ 2 ^ 7 := pow_lt_pow_two (by omega)
    refine w_mul_int (m := 19) (n := 8) (by rw [Int.natAbs_natCast]; omega) (by rw [Int.natAbs_natCast]; omega) (by decide) fun t11 => ?_
    rw [← Int.natCast_mul]
    walk_at "ww"
    refine w_div_int (m := 4) (by decide) (by decide) (by decide) fun t12 => ?_
    walk_at "ww"
    refine w_pow_int (n := rest) (by omega) rfl (by decide) fun t13 => ?_
    rw [powC]
    refine w_mod_int (by omega) fun t14 => ?_
    rw [show (drawn : Int) / 5 = ((drawn / 5 : Nat) : Int) by omega, ← Int.natCast_emod]
    walk_at "ww"
    rw [← Int.natCast_add]
    have lx := Nat.mod_lt (drawn / 5) r0
    have bnd : drawn % 2 ^ size * 2 ^ rest + drawn / 5 % 2 ^ rest < 256 ^ whole := by
      have e : 256 ^ whole = 2 ^ size * 2 ^ rest := by
        rw [← Nat.pow_add, show size + rest = 8 * whole by omega, Nat.pow_mul]
      rw [e]
      have : (drawn % 2 ^ size + 1) * 2 ^ rest ≤ 2 ^ size * 2 ^ rest := Nat.mul_le_mul_right _ lt
      rw [Nat.add_mul] at this
      omega
    refine w_to_bytes rfl rfl (by omega) bnd fun t15 => ?_
    walk_at "ww"
    refine w_to_bytes rfl rfl (by omega) (Nat.lt_of_le_of_lt (Nat.le_add_right _ _) bnd) fun t16 => ?_
    walk_at "ww"
    refine w_newTuple (fun a => ?_) (line_le (by simp))
    walk_at "ww"
    subst hwh hrest
    exact ⟨_, .take .here .nil, a, size, _, _, _, _, _, _, _, .r hs1 hs2 lt lx, ⟨_, rfl⟩, ⟨_, rfl⟩, rfl, rfl⟩
  walk_at "ww"
  refine w_If ?_
  walk_at "ww"
  refine ⟨fun h => ?_, fun h4 => ?_⟩
  · walk_at "ww"
    have hk : kind = 116 := by simpa using h
    subst hk
    refine w_mod_int (by decide) fun t6 => ?_
    walk_at "ww"
    obtain ⟨k, hk⟩ : ∃ k : Nat, k = 1 + wide % 3 := ⟨_, rfl⟩
    refine w_mul_int (m := 4) (n := 4) (by decide) (by omega) (by decide) fun t7 => ?_
    walk_at "ww"
    rw [show (8 : Int) + 8 * ((wide : Int) % 3) = ((8 * k : Nat) : Int) by omega]
    refine w_mod_int (by decide) fun t8 => ?_
    walk_at "ww"
    obtain ⟨c, hc⟩ : ∃ c : Nat, c = 97 + drawn % 26 := ⟨_, rfl⟩
    rw [show (97 : Int) + (drawn : Int) % 26 = (c : Int) by omega]
    refine w_If ?_
    walk_at "ww"
    refine ⟨fun h => ?_, fun h => ?_⟩
    · have hk2 : k ≤ 2 := by have := of_decide_eq_true h; omega
      walk_at "ww"
      refine w_chr rfl (by omega) fun t9 => ?_
      walk_at "ww"
      refine w_pow_int (n := 8 * k - 8) (by omega) (by omega) (by decide) fun t10 => ?_
      rw [powC]
      have l8 : 2 ^ (8 * k - 8) ≤ 2 ^ 8 := pow_lt_pow_two (by omega)
      refine w_mul_int (m := 7) (n := 9) (by omega) (by rw [Int.natAbs_natCast]; omega) (by decide) fun t11 => ?_
      rw [← Int.natCast_mul]
      walk_at "ww"
      refine w_chr (n := 0) rfl (by omega) fun t12 => ?_
      walk_at "ww"
      refine w_div_int (m := 4) (by decide) (by decide) (by decide) fun t13 => ?_
      walk_at "ww"
      have e0 : (((8 * k : Nat) : Int) / 8 - 1).toNat = k - 1 := by omega
      refine w_mul_S (by simp) (by omega) (by rw [e0]; simp; omega) fun t14 => ?_
      rw [e0]
      refine w_add_S (by simp; omega) fun t15 => ?_
      walk_at "ww"
      refine w_newTuple (fun a => ?_) (line_le (by simp))
      walk_at "ww"
      have e1 : [c] ++ (List.replicate (k - 1) [0]).flatten = c :: List.replicate (k - 1) 0 := by
        have : k - 1 = 0 ∨ k - 1 = 1 := by omega
        rcases this with q | q <;> rw [q] <;> rfl
      rw [e1]
      exact ⟨_, .take .here .nil, a, 8 * k, _, _, _, _, _, _, _, .t (c := c) (k := k) (by omega) (by omega) (by omega) hk2, ⟨_, rfl⟩, ⟨_, rfl⟩, rfl, rfl⟩
    · have hk3 : k = 3 := by have := of_decide_eq_false h; omega
      rw [hk3]
      walk_at "ww"
      refine w_mod_int (by decide) fun t9 => ?_
      walk_at "ww"
      obtain ⟨d, hd⟩ : ∃ d : Nat, d = 192 + drawn % 60 := ⟨_, rfl⟩
      rw [show (192 : Int) + (drawn : Int) % 60 = (d : Int) by omega]
      refine w_chr rfl (by omega) fun t10 => ?_
      walk_at "ww"
      refine w_chr rfl (by omega) fun t11 => ?_
      walk_at "ww"
      refine w_add_S (by simp) fun t12 => ?_
      walk_at "ww"
      refine w_mul_int (m := 7) (n := 17) (by omega) (by decide) (by decide) fun t13 => ?_
      walk_at "ww"
      refine w_mul_int (m := 8) (n := 9) (by decide) (by decide) (by decide) fun t14 => ?_
      walk_at "ww"
      refine w_mod_int (by decide) fun t15 => ?_
      walk_at "ww"
      rw [show (c : Int) * 65536 + 195 * 256 + 128 + (d : Int) % 64 = ((c * 65536 + 195 * 256 + 128 + d % 64 : Nat) : Int) by omega]
      refine w_newTuple (fun a => ?_) (line_le (by simp))
      walk_at "ww"
      exact ⟨_, .take .here .nil, a, 24, _, _, _, _, _, _, _, .t3 (c := c) (d := d) (by omega) (by omega) (by omega) (by omega), ⟨_, rfl⟩, ⟨_, rfl⟩, rfl, rfl⟩
  walk_at "ww"
  refine w_If ?_
  walk_at "ww"
  refine ⟨fun h => ?_, fun h5 => ?_⟩
  · walk_at "ww"
    have hk : kind = 80 := by simpa using h
    subst hk
    refine w_pow_int (n := size) (by omega) rfl (by decide) fun t6 => ?_
    rw [powC]
    walk_at "ww"
    rw [show ((2 ^ size : Nat) : Int) - 1 = ((2 ^ size - 1 : Nat) : Int) by omega]
    refine w_newTuple (fun a => ?_) (line_le (by simp))
    walk_at "ww"
    exact ⟨_, .take .here .nil, a, size, _, _, _, _, _, _, _, .P hs1 hs2, rfl, rfl, rfl, rfl⟩
  walk_at "ww"
  have hkp : kind = 112 := by
    simp only [List.mem_cons, List.not_mem_nil, or_false] at hk
    simp at h0 h1 h2 h3 h4 h5
    omega
  subst hkp
  refine w_newTuple (fun a => ?_) (line_le (by simp))
  walk_at "ww"
  exact ⟨_, .take .here .nil, a, size, 0, _, _, _, _, _, _, .p hs1 hs2, rfl, rfl, rfl, rfl⟩
-- part F10
/-! a column of the plan -/
structure Grp where
  a : Addr
  vs : List Value
  g : G
  gv : GV g vs
noncomputable def Grp.keep (x : Grp) : Bool := !decide (x.g.kind ∈ [112, 80])
noncomputable def Grp.o (x : Grp) : Addr × Obj := (x.a, tupO x.vs)
noncomputable def GAt (hp : Heap) (l : List Grp) : Prop := ∀ x ∈ l, hp.get? x.a = some (tupO x.vs)
noncomputable def colOf (c : Nat) (l : List Grp) : List Value := (l.filter Grp.keep).map fun x => x.vs.getD c .none
noncomputable def refs (l : List Grp) : List Value := l.map fun x => .ref x.a

@[reducible] def reScope (e : Env) (sc : Scope) : Env := { e with scope := sc }
@[reducible] def reFd (fd : FuncData) (sc : Scope) : FuncData := { fd with scope := sc }
@[reducible] noncomputable def fn_values : Fn := { addr := 593, names := [Str.ofString "plan"], fd := fdAt 593, mkE := fun L _ => callEnvC (fdAt 593) L 593 }
noncomputable def sc_values : Scope := eScope (eArg (sExpr ((bodyOf (fdAt 593)).headD default)))
@[reducible] noncomputable def fn_valuesC : Fn := { addr := 593, names := [Str.ofString "group"], fd := reFd (fdAt 593) (relabel sc_values (callEnvC (fdAt 593) 0 593)), mkE := fun L o => reScope (newEnv sc_values L mainGlobals [(Str.ofString "column", o + 1)] (callEnvC (fdAt 593) o 593).qual none .none (some (callEnvC (fdAt 593) o 593)) builtinsNs) (relabel sc_values (callEnvC (fdAt 593) o 593)) }
theorem values_ok : FnOk fn_values :=
  { nd := by decide +kernel, loc := by decide +kernel, kind := by kernel_rfl, dbg := by decide +kernel, gl := by kernel_rfl, bn := by kernel_rfl, en := fun _ _ => ⟨rfl, rfl, by kernel_rfl, by kernel_rfl⟩ }
theorem valuesC_ok : FnOk fn_valuesC :=
  { nd := by decide +kernel, loc := by decide +kernel, kind := by kernel_rfl, dbg := by decide +kernel, gl := by kernel_rfl, bn := by kernel_rfl, en := fun _ _ => ⟨by kernel_rfl, rfl, by kernel_rfl, by kernel_rfl⟩ }

theorem colOf_take (c : Nat) (l : List Grp) (i : Nat) (x : Grp) (h : l[i]? = some x) : colOf c (l.take (i + 1)) = colOf c (l.take i) ++ (if x.keep then [x.vs.getD c .none] else []) := by
  unfold colOf
  rw [take_succ_filter _ _ _ _ h, List.map_append]
  cases x.keep <;> rfl

theorem values_sp {w : World} {p : Addr} {op : Obj} {gs : List Grp} {c : Nat} {t : Tok} (lo : LO op (refs gs)) (hc : c < 6) (hz : gs.length ≤ 1000) :
    Sp w 1 (call (.ref 593) [.ref p, .int c t]) [] (fun hp => hp.get? p = some op ∧ GAt hp gs) (fun v P' => ∃ a, v = .ref a ∧ P' = [(a, tupO (colOf c gs))]) NoX := by
  refine SpC.sp (SpC.defC (F := fn_values) (n := 0) (vals := [.ref p, .int c t]) (binds := [(Str.ofString "plan", .ref p), (Str.ofString "column", .int c t)]) (V₀ := [some (.ref p)]) (cn := Str.ofString "column") (cv := .int c t)
    (by kernel_rfl) (by kernel_rfl) rfl (by kernel_rfl) (by kernel_rfl) (by kernel_rfl) (by kernel_rfl) (fun _ _ => rfl) (fun L => by kernel_rfl) (by kernel_rfl) ?_ ?_ ?_ ?_)
  · intro x hx
    rcases List.mem_cons.mp hx with rfl | hx
    · exact .inl (by kernel_rfl)
    · rw [List.mem_singleton.mp hx]; exact .inr ⟨by kernel_rfl, rfl⟩
  · intro L x
    unfold bindL bindL bindL
    have e1 : (callEnvC (fdAt 593) L 593).kindOf (Str.ofString "plan") = some .local := by kernel_rfl
    have e2 : (callEnvC (fdAt 593) L 593).kindOf (Str.ofString "column") = some .cell := by kernel_rfl
    rw [if_pos e1, if_neg (by rw [e2]; simp)]
    show (if x = Str.ofString "plan" then _ else _) = slot [Str.ofString "plan"] [some (.ref p)] x
    unfold slot
    rw [List.zip_cons_cons, List.zip_nil_right, List.lookup_cons]
    by_cases hx : x = Str.ofString "plan"
    · rw [if_pos hx, hx, beq_self_eq_true]; rfl
    · rw [if_neg hx, beq_eq_false_iff_ne.mpr hx]; rfl
  · intro L
    unfold bindC bindC bindC
    have e1 : (callEnvC (fdAt 593) L 593).kindOf (Str.ofString "plan") = some .local := by kernel_rfl
    have e2 : (callEnvC (fdAt 593) L 593).kindOf (Str.ofString "column") = some .cell := by kernel_rfl
    rw [if_pos e1, if_neg (by rw [e2]; simp)]
    rw [if_pos rfl]
  · rintro C oc hw hn ⟨hp, hg⟩ hoc
    have ok := values_ok
    walk_at "ww"
    refine w_LC (F' := fn_valuesC) valuesC_ok (cl := [(Str.ofString "column", C.L + 1)]) (fun L => by kernel_rfl) (by kernel_rfl) (by kernel_rfl) (by kernel_rfl) (by kernel_rfl) ?_
    walk_at "ww"
    refine ⟨p, op, _, rfl, .inr hp, lo, by unfold refs; rw [List.length_map]; omega, fun i ws => ws = colOf c (gs.take i), rfl, ?_, ?_⟩
    · rintro C' V' H' i y ws hw' hn' ho hold hy rfl hV'
      have ok := valuesC_ok
      obtain ⟨x, hx, rfl⟩ : ∃ x, gs[i]? = some x ∧ y = .ref x.a := by
        unfold refs at hy
        rw [List.getElem?_map] at hy
        cases e : gs[i]? with
        | none => rw [e] at hy; cases hy
        | some x => rw [e] at hy; cases hy; exact ⟨x, rfl, rfl⟩
      obtain ⟨v0, rfl⟩ : ∃ v0, V' = [v0] := by
        match V', hV' with
        | [v0], _ => exact ⟨v0, rfl⟩
      have hxa : C'.h₀.get? x.a = some (tupO x.vs) := hold _ _ (.inr (hg x (List.mem_of_getElem? hx)))
      obtain ⟨k1, k2, k3, k4, va, vb, hvs, hva, hvb⟩ := x.gv.ex
      walk_at "ww"
      refine w_tests1 ?_
      walk_at "ww"
      refine w_itup (.inr hxa) (i := 0) (x := .str (S [x.g.kind]) k1) rfl (by rw [hvs]; rfl) (by decide) ?_
      walk_at "ww"
      refine ⟨fun hk => ?_, fun hk => ?_⟩
      · walk_at "ww"
        refine w_Name_cell (c := C.L + 1) (oc := oc) (v := .int c t) ok (by kernel_rfl) (by show List.lookup (Str.ofString "column") [(Str.ofString "column", (C'.out + 1 : Addr))] = _; rw [ho]; simp [List.lookup_cons]) (.inr (hold _ _ (.inl (.head _)))) hoc ?_ (by decide +kernel)
        have hlen : x.vs.length = 6 := by rw [hvs]; rfl
        refine w_itup (.inr hxa) (i := c) (x := x.vs.getD c .none) rfl (by rw [List.getD_eq_getElem?_getD, List.getElem?_eq_getElem (by omega)]; rfl) (by omega) ?_
        refine ⟨rfl, .rfl, ?_⟩
        have hkeep : x.keep = true := hk
        show _ = colOf c (gs.take (i + 1))
        rw [colOf_take c gs i x hx, hkeep, if_pos rfl]
      · refine ⟨rfl, .rfl, ?_⟩
        have hkeep : x.keep = false := hk
        show _ = colOf c (gs.take (i + 1))
        rw [colOf_take c gs i x hx, hkeep, if_neg (by decide), List.append_nil]
    · rintro ws a rfl
      rw [show (refs gs).length = gs.length by unfold refs; rw [List.length_map], List.take_length]
      have hcl : (colOf c gs).length ≤ 1000000 := by unfold colOf; rw [List.length_map]; exact Nat.le_trans (List.length_filter_le ..) (by omega)
      walk_at "ww"
      refine w_tuple_list (.inl (.head _)) (.listO _ _) hcl fun b => ?_
      walk_at "ww"
      exact ⟨_, .take .here .nil, b, rfl, rfl⟩
-- part F11
/-! alike -/
inductive PVs : List PV → List Value → Prop
  | nil : PVs [] []
  | cons {p : PV} {v : Value} {ps : List PV} {vs : List Value} : p.Is v → PVs ps vs → PVs (p :: ps) (v :: vs)
theorem PVs.len {ps : List PV} {vs : List Value} (h : PVs ps vs) : vs.length = ps.length := by
  induction h with
  | nil => rfl
  | cons _ _ ih => rw [List.length_cons, List.length_cons, ih]
theorem PVs.at {ps : List PV} {vs : List Value} (h : PVs ps vs) : ∀ (i : Nat) (v : Value), vs[i]? = some v → ∃ p, ps[i]? = some p ∧ p.Is v := by
  induction h with
  | nil => intro i v h; cases h
  | @cons p v ps vs hp _ ih =>
    intro i y hy
    cases i with
    | zero => exact ⟨p, rfl, by simp at hy; exact hy ▸ hp⟩
    | succ i => simp at hy; obtain ⟨q, a, b⟩ := ih i y hy; exact ⟨q, by simpa using a, b⟩
noncomputable def PV.plain : PV → Bool
  | .none => false
  | _ => true

theorem alike_sp {w : World} {g wa : Addr} {ps : List PV} {vs ws : List Value} (hv : PVs ps vs) (hw' : PVs ps ws) (hp : ∀ p ∈ ps, p.plain = true) (hz : ps.length ≤ 1000) :
    Sp w 1 (call (.ref 588) [.ref g, .ref wa]) [] (fun hp => hp.get? g = some (tupO vs) ∧ hp.get? wa = some (tupO ws)) (fun v P' => v = .bool true ∧ P' = []) NoX := by
  refine Sp.def (F := fn_alike) (n := 0) (vals := [_, _]) (alike_is w) rfl rfl (fun s A p => BindsTo.of_eq (by kernel_rfl)) (by show 2 ≤ 4; decide) (V₀ := [some (.ref g), some (.ref wa), none, none]) rfl (fun C hw hn ⟨hg, hwa⟩ => W.shrink ?_)
  have ok := (alike_is w).ok
  have hg' : ∀ H, Has C H g (tupO vs) := fun H => .inr hg
  have hwa' : ∀ H, Has C H wa (tupO ws) := fun H => .inr hwa
  walk_at "ww"
  refine w_If ?_
  walk_at "ww"
  refine w_isi_tup_tup (hg' _) ?_
  walk_at "ww"
  refine ⟨(fun h => nomatch h), fun _ => ?_⟩
  walk_at "ww"
  refine w_len_tup (hg' _) (by rw [hv.len]; omega) fun k1 => ?_
  walk_at "ww"
  refine w_len_tup (hwa' _) (by rw [hw'.len]; omega) fun k2 => ?_
  walk_at "ww"
  rw [hv.len, hw'.len]
  refine ⟨(fun h => by simp at h), fun _ => ?_⟩
  walk_at "ww"
  refine ⟨(fun h => nomatch h), fun _ => ?_⟩
  walk_at "ww"
  refine w_zip (hg' _) (hwa' _) fun z TI TO i1 i2 Z hZ => ?_
  walk_at "ww"
  refine w_iter_zip hZ ?_
  refine loop_zip hZ (by rw [hv.len, hw'.len]) (fun i V H => H = [] ∧ ∃ o1 o2, V = [some (.ref g), some (.ref wa), o1, o2]) (fun i V H _ => ⟨hg' _, hwa' _⟩) ⟨rfl, none, none, rfl⟩ ?_ ?_
  · rintro i x y V H T Z' hx hy ⟨rfl, o1, o2, rfl⟩
    obtain ⟨p, hpi, hpx⟩ := hv.at i x hx
    obtain ⟨p', hpi', hpy⟩ := hw'.at i y hy
    rw [hpi] at hpi'
    cases hpi'
    have hpl := hp p (List.mem_of_getElem? hpi)
    refine w_assign_Tup (.inl (.head _)) (by kernel_rfl) (by kernel_rfl) ?_
    walk_at "ww"
    refine w_If ?_
    cases p with
    | none => cases hpl
    | int n =>
      obtain ⟨t1, rfl⟩ := hpx
      obtain ⟨t2, rfl⟩ := hpy
      walk_at "ww"
      refine ⟨(fun h => by simp at h), fun _ => ?_⟩
      walk_at "ww"
      refine w_ne_bool ?_
      walk_at "ww"
      refine ⟨(fun h => by simp at h), fun _ => ?_⟩
      walk_at "ww"
      refine ⟨(fun h => nomatch h), fun _ => ?_⟩
      walk_at "ww"
      refine w_If ?_
      walk_at "ww"
      refine w_ne_bool ?_
      walk_at "ww"
      refine ⟨(fun h => by simp at h), fun _ => ?_⟩
      walk_at "ww"
      exact ⟨[], .skip .rfl, rfl, _, _, rfl⟩
    | bool b =>
      cases hpx
      cases hpy
      walk_at "ww"
      refine w_ne_bool ?_
      walk_at "ww"
      refine ⟨(fun h => by simp at h), fun _ => ?_⟩
      walk_at "ww"
      refine w_ne_bool ?_
      walk_at "ww"
      refine ⟨(fun h => by simp at h), fun _ => ?_⟩
      walk_at "ww"
      refine ⟨(fun h => nomatch h), fun _ => ?_⟩
      walk_at "ww"
      refine w_If ?_
      walk_at "ww"
      refine w_ne_bool ?_
      walk_at "ww"
      refine ⟨(fun h => by simp at h), fun _ => ?_⟩
      walk_at "ww"
      exact ⟨[], .skip .rfl, rfl, _, _, rfl⟩
    | str l =>
      obtain ⟨t1, rfl⟩ := hpx
      obtain ⟨t2, rfl⟩ := hpy
      walk_at "ww"
      refine ⟨(fun h => by simp at h), fun _ => ?_⟩
      walk_at "ww"
      refine w_ne_bool ?_
      walk_at "ww"
      refine ⟨(fun h => by simp at h), fun _ => ?_⟩
      walk_at "ww"
      refine ⟨(fun h => nomatch h), fun _ => ?_⟩
      walk_at "ww"
      refine w_If ?_
      walk_at "ww"
      refine w_ne_bool ?_
      walk_at "ww"
      refine ⟨(fun h => by simp at h), fun _ => ?_⟩
      walk_at "ww"
      exact ⟨[], .skip .rfl, rfl, _, _, rfl⟩
    | bytes l =>
      obtain ⟨t1, rfl⟩ := hpx
      obtain ⟨t2, rfl⟩ := hpy
      walk_at "ww"
      refine ⟨(fun h => by simp at h), fun _ => ?_⟩
      walk_at "ww"
      refine w_ne_bool ?_
      walk_at "ww"
      refine ⟨(fun h => by simp at h), fun _ => ?_⟩
      walk_at "ww"
      refine ⟨(fun h => nomatch h), fun _ => ?_⟩
      walk_at "ww"
      refine w_If ?_
      walk_at "ww"
      refine w_ne_bool ?_
      walk_at "ww"
      refine ⟨(fun h => by simp at h), fun _ => ?_⟩
      walk_at "ww"
      exact ⟨[], .skip .rfl, rfl, _, _, rfl⟩
  · rintro V H ⟨rfl, o1, o2, rfl⟩
    walk_at "ww"
    exact ⟨[], .rfl, rfl, rfl⟩
-- part F12
/-! infos of a format -/
noncomputable def clsK (kd : Nat) : Addr := if kd = 115 then 132 else if kd = 117 then 167 else if kd = 98 then 196 else if kd = 114 then 298 else if kd = 116 then 383 else if kd = 112 then 329 else 348
noncomputable abbrev utf8L : List Nat := [117, 116, 102, 45, 56]
noncomputable abbrev strictL : List Nat := [115, 116, 114, 105, 99, 116]
noncomputable abbrev aPack : Str := Str.ofString "pack"
noncomputable abbrev aUnpack : Str := Str.ofString "unpack"
structure KvOk (kd size idx : Nat) (kv : KV) : Prop where
  z : ∃ t, kvGet aSize kv = some (.int (size : Nat) t)
  nm : kd ∉ [112, 80] → ∃ t, kvGet aName kv = some (.int (idx : Nat) t)
  s : kd = 115 → ∃ t1 t2, kvGet aMin kv = some (.int (-((2 ^ (size - 1) : Nat) : Int)) t1) ∧ kvGet aMax kv = some (.int (((2 ^ (size - 1) : Nat) : Int) - 1) t2)
  u : kd = 117 ∨ kd = 98 → ∃ t, kvGet aMax kv = some (.int ((2 ^ size - 1 : Nat) : Int) t)
  tx : kd = 116 → ∃ t1 t2, kvGet aEnc kv = some (.str (S utf8L) t1) ∧ kvGet aErr kv = some (.str (S strictL) t2)
  np : kvGet aPack kv = none
  nu : kvGet aUnpack kv = none
theorem cls_ok (w : World) (kd : Nat) (h : kd ∈ [115, 117, 98, 114, 116, 112, 80]) : ClsOk w (clsK kd) infoNames := by
  simp only [List.mem_cons, List.not_mem_nil, or_false] at h
  rcases h with rfl | rfl | rfl | rfl | rfl | rfl | rfl
  · exact s_ok w
  · exact u_ok w
  · exact b_ok w
  · exact r_ok w
  · exact t_ok w
  · exact zp_ok w
  · exact op_ok w

theorem info_init2_sp {w : World} {x dx Cc : Addr} {sz : Value} (hc : ClsOk w Cc infoNames) :
    SpC w 1 (.ref 92) ⟨[.ref x, sz], []⟩ [(x, instObj Cc dx), (dx, dictOf [] 0)] (fun _ => True) (fun v P' => v = .none ∧ ∃ od, P' = [(x, instObj Cc dx), (dx, od)] ∧ DO od [(aSize, sz), (aName, .none), (aEnd, .none)]) NoX := by
  refine SpC.def (F := fn_info_init) (n := 0) (vals := [.ref x, sz, .none]) (info_init_is w) rfl rfl (fun s A p => binds_K (T := 85) (o := tupO [.none]) p.kin rfl (by kernel_rfl) rfl rfl rfl) (by show 3 ≤ 3; decide) (V₀ := [some (.ref x), some sz, some .none]) rfl (fun C hw hn hb => ?_)
  have ok := (info_init_is w).ok
  subst hw
  have hD : DO (dictOf [] 0) [] := ⟨_, _, rfl, .nil⟩
  walk_at "ww"
  refine w_setOwn (.inl (.head _)) hD hc.hs hc.hp (hc.tk aSize (by simp)) hc.hh (kv_le (by kernel_rfl)) (fun o' => .tail .head) fun o1 hD1 => ?_
  walk_at "ww"
  refine w_setOwn (.inl (.head _)) hD1 hc.hs hc.hp (hc.tk aName (by simp)) hc.hh (kv_le (by kernel_rfl)) (fun o' => .tail .head) fun o2 hD2 => ?_
  walk_at "ww"
  refine w_setOwn (.inl (.head _)) hD2 hc.hs hc.hp (hc.tk aEnd (by simp)) hc.hh (kv_le (by kernel_rfl)) (fun o' => .tail .head) fun o3 hD3 => ?_
  walk_at "ww"
  exact ⟨rfl, o3, rfl, hD3.cast (by kernel_rfl)⟩

section
variable {Fx : Fn} {C : Cx Fx} {E : Value → Vals → Led → Prop} {V : Vals} {H : Led} {Q : Value → Vals → Led → Prop} {size idx : Nat} {t ti t3 t4 : Tok}
theorem w_mk_s (hn : 3 ≤ C.n) (h1 : 1 ≤ size) (hz : size ≤ 1000) (h : ∀ x dx od kv, DO od kv → KvOk 115 size idx kv → kv.length ≤ 10 → Q (.ref x) V ((x, instObj (clsK 115) dx) :: (dx, od) :: H)) : W C E (call (.ref 132) [.int size t, .int idx ti]) V H Q := by
  refine w_new (pre := fun _ => True) (by kernel_rfl) (fI := 115) (by kernel_rfl) (by kernel_rfl) hn (fun _ _ => trivial) (fun x dx => s_init_sp h1 hz) ?_
  rintro x dx v P' ⟨rfl, od, t1, t2, rfl, hD⟩
  exact ⟨rfl, h x dx od _ hD ⟨⟨t, by kernel_rfl⟩, fun _ => ⟨ti, by kernel_rfl⟩, fun _ => ⟨t1, t2, by kernel_rfl, by kernel_rfl⟩, fun h => absurd h (by decide), fun h => absurd h (by decide), by kernel_rfl, by kernel_rfl⟩ (Nat.le_of_ble_eq_true rfl)⟩
theorem w_mk_u (hn : 3 ≤ C.n) (hz : size ≤ 1000) (h : ∀ x dx od kv, DO od kv → KvOk 117 size idx kv → kv.length ≤ 10 → Q (.ref x) V ((x, instObj (clsK 117) dx) :: (dx, od) :: H)) : W C E (call (.ref 167) [.int size t, .int idx ti]) V H Q := by
  refine w_new (pre := fun _ => True) (by kernel_rfl) (fI := 150) (by kernel_rfl) (by kernel_rfl) hn (fun _ _ => trivial) (fun x dx => u_init_sp (u_ok _) (by kernel_rfl) (by kernel_rfl) hz) ?_
  rintro x dx v P' ⟨rfl, od, t2, rfl, hD⟩
  exact ⟨rfl, h x dx od _ hD ⟨⟨t, by kernel_rfl⟩, fun _ => ⟨ti, by kernel_rfl⟩, fun h => absurd h (by decide), fun _ => ⟨t2, by kernel_rfl⟩, fun h => absurd h (by decide), by kernel_rfl, by kernel_rfl⟩ (Nat.le_of_ble_eq_true rfl)⟩
theorem w_mk_b (hn : 3 ≤ C.n) (hz : size ≤ 1000) (h : ∀ x dx od kv, DO od kv → KvOk 98 size idx kv → kv.length ≤ 10 → Q (.ref x) V ((x, instObj (clsK 98) dx) :: (dx, od) :: H)) : W C E (call (.ref 196) [.int size t, .int idx ti]) V H Q := by
  refine w_new (pre := fun _ => True) (by kernel_rfl) (fI := 150) (by kernel_rfl) (by kernel_rfl) hn (fun _ _ => trivial) (fun x dx => u_init_sp (b_ok _) (by kernel_rfl) (by kernel_rfl) hz) ?_
  rintro x dx v P' ⟨rfl, od, t2, rfl, hD⟩
  exact ⟨rfl, h x dx od _ hD ⟨⟨t, by kernel_rfl⟩, fun _ => ⟨ti, by kernel_rfl⟩, fun h => absurd h (by decide), fun _ => ⟨t2, by kernel_rfl⟩, fun h => absurd h (by decide), by kernel_rfl, by kernel_rfl⟩ (Nat.le_of_ble_eq_true rfl)⟩
theorem w_mk_r (hn : 2 ≤ C.n) (h : ∀ x dx od kv, DO od kv → KvOk 114 size idx kv → kv.length ≤ 10 → Q (.ref x) V ((x, instObj (clsK 114) dx) :: (dx, od) :: H)) : W C E (call (.ref 298) [.int size t, .int idx ti]) V H Q := by
  refine w_new (pre := fun _ => True) (by kernel_rfl) (fI := 92) (by kernel_rfl) (by kernel_rfl) hn (fun _ _ => trivial) (fun x dx => info_init_sp (r_ok _)) ?_
  rintro x dx v P' ⟨rfl, od, rfl, hD⟩
  exact ⟨rfl, h x dx od _ hD ⟨⟨t, by kernel_rfl⟩, fun _ => ⟨ti, by kernel_rfl⟩, fun h => absurd h (by decide), fun h => absurd h (by decide), fun h => absurd h (by decide), by kernel_rfl, by kernel_rfl⟩ (Nat.le_of_ble_eq_true rfl)⟩
theorem w_mk_t (hn : 3 ≤ C.n) (h : ∀ x dx od kv, DO od kv → KvOk 116 size idx kv → kv.length ≤ 10 → Q (.ref x) V ((x, instObj (clsK 116) dx) :: (dx, od) :: H)) : W C E (call (.ref 383) [.int size t, .int idx ti, .str (S utf8L) t3, .str (S strictL) t4]) V H Q := by
  refine w_new (pre := fun _ => True) (by kernel_rfl) (fI := 366) (by kernel_rfl) (by kernel_rfl) hn (fun _ _ => trivial) (fun x dx => t_init_sp) ?_
  rintro x dx v P' ⟨rfl, od, rfl, hD⟩
  exact ⟨rfl, h x dx od _ hD ⟨⟨t, by kernel_rfl⟩, fun _ => ⟨ti, by kernel_rfl⟩, fun h => absurd h (by decide), fun h => absurd h (by decide), fun _ => ⟨t3, t4, by kernel_rfl, by kernel_rfl⟩, by kernel_rfl, by kernel_rfl⟩ (Nat.le_of_ble_eq_true rfl)⟩
theorem w_mk_p (hn : 2 ≤ C.n) (h : ∀ x dx od kv, DO od kv → KvOk 112 size idx kv → kv.length ≤ 10 → Q (.ref x) V ((x, instObj (clsK 112) dx) :: (dx, od) :: H)) : W C E (call (.ref 329) [.int size t]) V H Q := by
  refine w_new (pre := fun _ => True) (by kernel_rfl) (fI := 92) (by kernel_rfl) (by kernel_rfl) hn (fun _ _ => trivial) (fun x dx => info_init2_sp (zp_ok _)) ?_
  rintro x dx v P' ⟨rfl, od, rfl, hD⟩
  exact ⟨rfl, h x dx od _ hD ⟨⟨t, by kernel_rfl⟩, fun h => absurd h (by decide), fun h => absurd h (by decide), fun h => absurd h (by decide), fun h => absurd h (by decide), by kernel_rfl, by kernel_rfl⟩ (Nat.le_of_ble_eq_true rfl)⟩
theorem w_mk_P (hn : 2 ≤ C.n) (h : ∀ x dx od kv, DO od kv → KvOk 80 size idx kv → kv.length ≤ 10 → Q (.ref x) V ((x, instObj (clsK 80) dx) :: (dx, od) :: H)) : W C E (call (.ref 348) [.int size t]) V H Q := by
  refine w_new (pre := fun _ => True) (by kernel_rfl) (fI := 92) (by kernel_rfl) (by kernel_rfl) hn (fun _ _ => trivial) (fun x dx => info_init2_sp (op_ok _)) ?_
  rintro x dx v P' ⟨rfl, od, rfl, hD⟩
  exact ⟨rfl, h x dx od _ hD ⟨⟨t, by kernel_rfl⟩, fun h => absurd h (by decide), fun h => absurd h (by decide), fun h => absurd h (by decide), fun h => absurd h (by decide), by kernel_rfl, by kernel_rfl⟩ (Nat.le_of_ble_eq_true rfl)⟩
end

theorem kvGet_other {n m : Str} (v : Value) (h : (m == n) = false) : ∀ kv, kvGet n (kvPut m v kv) = kvGet n kv
  | [] => by simp [kvPut, kvGet, h]
  | p :: r => by
    by_cases hp : (p.1 == m) = true
    · have e : p.1 = m := beq_iff_eq.mp hp
      simp only [kvPut, kvGet, e, h, beq_self_eq_true, if_true, Bool.false_eq_true, if_false]
    · simp only [kvPut, if_neg hp, kvGet]
      split
      · rfl
      · exact kvGet_other v h r
theorem kvPut_len (n : Str) (v : Value) : ∀ kv : KV, (kvPut n v kv).length ≤ kv.length + 1
  | [] => Nat.le_refl _
  | p :: r => by
    by_cases hp : (p.1 == n) = true
    · simp [kvPut, hp]
    · simp only [kvPut, if_neg hp, List.length_cons]
      have := kvPut_len n v r
      omega

/-- an info that is made -/
structure II where
  x : Addr
  dx : Addr
  od : Obj
  kd : Nat
  size : Nat
  little : Bool
  idx : Nat
noncomputable def II.led (i : II) : Led := [(i.x, instObj (clsK i.kd) i.dx), (i.dx, i.od)]
structure IOk (i : II) : Prop where
  kd : i.kd ∈ [115, 117, 98, 114, 116, 112, 80]
  ex : ∃ kv, DO i.od kv ∧ KvOk i.kd i.size i.idx kv ∧ ∃ t, kvGet aEnd kv = some (.str (S [ordCh i.little]) t)
theorem KvOk.put {kd size idx : Nat} {kv : KV} {v : Value} (h : KvOk kd size idx kv) : KvOk kd size idx (kvPut aEnd v kv) :=
  ⟨by rw [kvGet_other _ (by decide +kernel)]; exact h.z, fun k => by rw [kvGet_other _ (by decide +kernel)]; exact h.nm k, fun k => by rw [kvGet_other _ (by decide +kernel), kvGet_other _ (by decide +kernel)]; exact h.s k,
    fun k => by rw [kvGet_other _ (by decide +kernel)]; exact h.u k, fun k => by rw [kvGet_other _ (by decide +kernel), kvGet_other _ (by decide +kernel)]; exact h.tx k,
    by rw [kvGet_other _ (by decide +kernel)]; exact h.np, by rw [kvGet_other _ (by decide +kernel)]; exact h.nu⟩
-- part F13
local macro_rules | `(tactic| walk_at "no") => `(tactic| (refine w_If ?_; walk_at "ww"; refine ⟨(fun h => absurd h (by decide)), fun _ => ?_⟩; walk_at "ww"))
local macro_rules | `(tactic| walk_at "yes") => `(tactic| (refine w_If ?_; walk_at "ww"; refine ⟨fun _ => ?_, (fun h => absurd h (by decide))⟩; walk_at "ww"))
/-! a format, parsed -/
structure Fi where
  sg : Option Bool
  kd : Nat
  size : Nat
  sp : Bool
noncomputable def Fi.piece (f : Fi) : Piece := ⟨match f.sg with | none => [] | some b => [ordCh b], f.kd, decL f.size, if f.sp then [32] else []⟩
structure Fi.Ok (f : Fi) : Prop where
  kd : f.kd ∈ [115, 117, 98, 114, 116, 112, 80]
  lo : 1 ≤ f.size
  hi : f.size < 30
theorem Fi.Ok.piece {f : Fi} (h : f.Ok) : f.piece.Ok := by
  obtain ⟨_, _, _, d1, d2, _⟩ := decL_facts ⟨f.size, h.hi⟩
  refine ⟨?_, h.kd, d1, d2, ?_⟩
  · unfold Fi.piece
    cases f.sg with
    | none => exact .inl rfl
    | some b => cases b with
      | true => exact .inr (.inl rfl)
      | false => exact .inr (.inr rfl)
  · unfold Fi.piece
    cases f.sp with
    | true => exact .inr rfl
    | false => exact .inl rfl
noncomputable def fmtL (fs : List Fi) : List Nat := fs.flatMap fun f => f.piece.t
noncomputable def endGo (e : Bool) (f : Fi) : Bool := f.sg.getD e
noncomputable def cntGo (n : Nat) (f : Fi) : Nat := if f.kd ∈ [112, 80] then n else n + 1
/-- what each info says: kind, size, byte order, place among the values -/
noncomputable def specGo : Bool → Nat → List Fi → List (Nat × Nat × Bool × Nat)
  | _, _, [] => []
  | e, n, f :: r => (f.kd, f.size, endGo e f, n) :: specGo (endGo e f) (cntGo n f) r
theorem specGo_snoc (f : Fi) : ∀ (fs : List Fi) (e : Bool) (n : Nat), specGo e n (fs ++ [f]) = specGo e n fs ++ [(f.kd, f.size, endGo (fs.foldl endGo e) f, fs.foldl cntGo n)]
  | [], e, n => rfl
  | g :: r, e, n => by
    show _ :: specGo _ _ (r ++ [f]) = _
    rw [specGo_snoc f r]; rfl
noncomputable def II.spec (i : II) : Nat × Nat × Bool × Nat := (i.kd, i.size, i.little, i.idx)
inductive Infos : List II → Led → Prop
  | nil : Infos [] []
  | snoc {is : List II} {L : Led} {i : II} : Infos is L → IOk i → Infos (is ++ [i]) (i.led ++ L)
noncomputable def irefs (is : List II) : List Value := is.map fun i => .ref i.x

theorem PieceL.at {ps : List Piece} {vs : List Value} {L : Led} (h : PieceL ps vs L) : ∀ (i : Nat) (y : Value), vs[i]? = some y → ∃ p a t1 t2 t3 t4, ps[i]? = some p ∧ y = .ref a ∧ (a, tupO (pieceVs p t1 t2 t3 t4)) ∈ L := by
  have len : vs.length = ps.length := by
    induction h with
    | nil => rfl
    | snoc _ ih => simp [ih]
  induction h with
  | nil => intro i y e; cases e
  | @snoc ps vs L p a t1 t2 t3 t4 hh ih =>
    have len' : vs.length = ps.length := by simpa using len
    intro i y e
    by_cases hi : i < vs.length
    · rw [List.getElem?_append_left hi] at e
      obtain ⟨q, b, k1, k2, k3, k4, h1, h2, h3⟩ := ih len' i y e
      exact ⟨q, b, k1, k2, k3, k4, by rw [List.getElem?_append_left (by omega)]; exact h1, h2, .tail _ h3⟩
    · have hi' : i = vs.length := by
        have := (List.getElem?_eq_some_iff.mp e).1
        simp at this; omega
      subst hi'
      rw [List.getElem?_append_right (Nat.le_refl _), Nat.sub_self] at e
      cases e
      exact ⟨p, a, t1, t2, t3, t4, by rw [List.getElem?_append_right (by omega), len', Nat.sub_self]; rfl, rfl, .head _⟩
theorem PieceL.len {ps : List Piece} {vs : List Value} {L : Led} (h : PieceL ps vs L) : vs.length = ps.length := by
  induction h with
  | nil => rfl
  | snoc _ ih => simp [ih]

theorem SubP.split_left : ∀ {A B : Led}, SubP A (A ++ B)
  | [], _ => .nil
  | _ :: _, _ => .take .here SubP.split_left
noncomputable def sc_parse : Scope := eScope (eArg (eLeft (sExpr ((bodyOf (fdAt 390)).getD 2 default))))
@[reducible] noncomputable def fn_parseC : Fn := { addr := 390, names := [Str.ofString "info"], fd := reFd (fdAt 390) (relabel sc_parse (callEnv (fdAt 390) 0 390)), mkE := fun L o => reScope (newEnv sc_parse L mainGlobals [] (callEnv (fdAt 390) o 390).qual none .none (some (callEnv (fdAt 390) o 390)) builtinsNs) (relabel sc_parse (callEnv (fdAt 390) o 390)) }
theorem parseC_ok : FnOk fn_parseC :=
  { nd := by decide +kernel, loc := by decide +kernel, kind := by kernel_rfl, dbg := by decide +kernel, gl := by kernel_rfl, bn := by kernel_rfl, en := fun _ _ => ⟨by kernel_rfl, rfl, by kernel_rfl, by kernel_rfl⟩ }

theorem last_piece {f : Fi} (h : f.Ok) : ∃ r c, f.piece.t = r ++ [c] ∧ c ∉ [62, 60] := by
  obtain ⟨_, _, _, d1, d2, _⟩ := decL_facts ⟨f.size, h.hi⟩
  cases hs : f.sp with
  | true => exact ⟨f.piece.sg ++ ([f.kd] ++ decL f.size), 32, by simp [Piece.t, Fi.piece, hs], by decide⟩
  | false =>
    obtain ⟨r, c, e⟩ : ∃ r c, decL f.size = r ++ [c] := ⟨_, _, (List.dropLast_concat_getLast d1).symm⟩
    have hc := d2 c (by show c ∈ decL f.size; rw [e]; simp)
    exact ⟨f.piece.sg ++ ([f.kd] ++ r), c, by simp [Piece.t, Fi.piece, hs, e], by simp; omega⟩
theorem last_fmt {fs : List Fi} (hf : ∀ f ∈ fs, f.Ok) (hne : fs ≠ []) : ∃ r c, fmtL fs = r ++ [c] ∧ c ∉ [62, 60] := by
  obtain ⟨gs, f, rfl⟩ : ∃ gs f, fs = gs ++ [f] := ⟨_, _, (List.dropLast_concat_getLast hne).symm⟩
  obtain ⟨r, c, e, h⟩ := last_piece (hf f (by simp))
  exact ⟨fmtL gs ++ r, c, by unfold fmtL; rw [List.flatMap_append, List.flatMap_cons, List.flatMap_nil, List.append_nil, e, List.append_assoc], h⟩
/-- the byte order a tail says -/
noncomputable def tailL : Option Bool → List Nat
  | none => []
  | some b => [ordCh b]
set_option maxHeartbeats 2000000 in
theorem parse_sp {w : World} {fs : List Fi} {tail : Option Bool} {t1 t2 t3 : Tok} (hf : ∀ f ∈ fs, f.Ok) (hne : fs ≠ []) (hl : (fmtL fs).length ≤ 900) :
    Sp w 4 (call (.ref 390) [.str (S (fmtL fs ++ tailL tail)) t1, .none, .str (S utf8L) t2, .str (S strictL) t3]) [] (fun _ => True) (fun v P' => ∃ a l n is L t, v = .ref a ∧ Infos is L ∧ is.map II.spec = specGo false 0 fs ∧
      P' = (a, tupO [.ref l, .str (S [ordCh (tail.getD false)]) t]) :: (l, listO (irefs is) n) :: L) NoX := by
  refine Sp.def (F := fn_parse) (n := 3) (vals := [_, .none, _, _]) (parse_is w) rfl rfl (fun s A p => BindsTo.of_eq (by kernel_rfl)) (by show 4 ≤ 14; decide)
    (V₀ := [some (.str (S (fmtL fs ++ tailL tail)) t1), some .none, some (.str (S utf8L) t2), some (.str (S strictL) t3), none, none, none, none, none, none, none, none, none, none]) rfl (fun C hw hn _ => W.shrink ?_)
  have ok := (parse_is w).ok
  subst hw
  have hps : ∀ p ∈ fs.map Fi.piece, p.Ok := fun p hp => by
    obtain ⟨f, hm, rfl⟩ := List.mem_map.mp hp
    exact (hf f hm).piece
  have hft : fmtL fs = (fs.map Fi.piece).flatMap Piece.t := by unfold fmtL; rw [List.flatMap_map]
  have hne' : fmtL fs ≠ [] := by
    cases fs with
    | nil => exact absurd rfl hne
    | cons f r => simp [fmtL, Piece.t]
  walk_at "ww"
  refine w_IfJ (fun V H => H = [] ∧ ∃ k1 k2, V = [some (.str (S (fmtL fs)) k1), some .none, some (.str (S utf8L) t2), some (.str (S strictL) t3), some (.str (S (tailL tail)) k2), none, none, none, none, none, none, none, none, none]) ?_ ?_
  · walk_at "ww"
    have hlt : (fmtL fs ++ tailL tail).length ≤ 16777216 := by
      have : (tailL tail).length ≤ 1 := by cases tail <;> simp [tailL]
      rw [List.length_append]; omega
    refine w_truthy_S hlt ?_
    refine ⟨fun _ => ?_, fun h => ?_⟩
    · walk_at "ww"
      obtain ⟨r, c, e, hc⟩ : ∃ r c, fmtL fs ++ tailL tail = r ++ [c] ∧ (match tail with | none => c ∉ [62, 60] | some b => r = fmtL fs ∧ c = ordCh b) := by
        cases tail with
        | none => obtain ⟨r, c, e, h⟩ := last_fmt hf hne; exact ⟨r, c, by rw [tailL, List.append_nil, e], h⟩
        | some b => exact ⟨fmtL fs, ordCh b, rfl, rfl, rfl⟩
      refine w_item_S (c := c) (by decide) (by rw [e]; exact item_last (by simp)) fun t4 => ?_
      walk_at "ww"
      cases tail with
      | none =>
        refine ⟨fun h => absurd (of_decide_eq_true h) hc, fun _ => ?_⟩
        walk_at "ww"
        refine ⟨(fun h => nomatch h), fun _ => ?_⟩
        walk_at "ww"
        exact ⟨rfl, rfl, _, _, by rw [tailL, List.append_nil]⟩
      | some b =>
        obtain ⟨rfl, rfl⟩ := hc
        refine ⟨fun _ => ?_, fun h => absurd (of_decide_eq_false h) (by cases b <;> decide)⟩
        walk_at "ww"
        refine ⟨fun _ => ?_, (fun h => nomatch h)⟩
        walk_at "ww"
        refine w_item_S (c := ordCh b) (by decide) (by rw [e]; exact item_last (by simp)) fun t5 => ?_
        walk_at "ww"
        refine cut_str .none (.int _ _) hlt fun t6 => ?_
        rw [show (-1 : Int) = -1 from rfl, cut_last, e, List.dropLast_concat]
        walk_at "ww"
        exact ⟨rfl, rfl, _, _, rfl⟩
    · exfalso
      have := of_decide_eq_false h
      exact this fun e => hne' (List.append_eq_nil_iff.mp e).1
  · rintro V H ⟨rfl, k1, k2, rfl⟩
    walk_at "ww"
    ktf_call 64
    refine w_pat_m ?_
    walk_at "ww"
    rw [hft]
    refine w_findall (by omega) hps (by rw [← hft]; omega) fun pa pvs pL hpL => ?_
    rw [← hft]
    have hplen := hpL.len
    rw [List.length_map] at hplen
    walk_at "ww"
    refine w_If ?_
    walk_at "ww"
    refine w_LC (F' := fn_parseC) parseC_ok (cl := []) (fun L => by kernel_rfl) (by kernel_rfl) (by kernel_rfl) (by kernel_rfl) (by kernel_rfl) ?_
    walk_at "ww"
    have hpl : ∀ (i : Nat) (y : Value), pvs[i]? = some y → ∃ p a s1 s2 s3 s4, (fs.map Fi.piece)[i]? = some p ∧ y = .ref a ∧ (a, tupO (pieceVs p s1 s2 s3 s4)) ∈ pL := hpL.at
    have hfl : fs.length ≤ (fmtL fs).length := by have := len_flat hps; rw [← hft, List.length_map] at this; exact this
    refine ⟨pa, listO pvs 0, pvs, rfl, .inl (.head _), .listO _ _, by omega, fun i ws => StrL ws ((fs.map fun f => f.piece.t).take i) ∧ ws.length = i, ⟨.nil, rfl⟩, ?_, ?_⟩
    · rintro C' V' H' i y ws hw' hn' ho hold hy ⟨hws, hwl⟩ hV'
      have ok := parseC_ok
      obtain ⟨p, a, s1, s2, s3, s4, h1, rfl, h3⟩ := hpl i y hy
      obtain ⟨v0, rfl⟩ : ∃ v0, V' = [v0] := by
        match V', hV' with
        | [v0], _ => exact ⟨v0, rfl⟩
      walk_at "ww"
      refine w_tests0 ⟨fun _ => ?_, (fun h => nomatch h)⟩
      walk_at "ww"
      have hpi : i < fs.length := by have := (List.getElem?_eq_some_iff.mp h1).1; rwa [List.length_map] at this
      have hpt : [p.sg, [p.kd], p.dg, p.sp].flatten = p.t := by simp [Piece.t]
      have hpz : p.t.length ≤ 1000 := by
        have : p.t.length ≤ (fmtL fs).length := by
          rw [hft]
          obtain ⟨l1, l2, e⟩ := List.append_of_mem (List.mem_of_getElem? h1)
          rw [e, List.flatMap_append, List.flatMap_cons]; simp; omega
        omega
      refine w_join_tup (.inr (hold _ _ (.inl (.tail _ (List.mem_append_left _ h3))))) (ys := [p.sg, [p.kd], p.dg, p.sp]) (.cons (.cons (.cons (.cons .nil)))) (by rw [hpt]; omega) fun t5 => ?_
      rw [hpt]
      refine ⟨rfl, .rfl, ?_, by simp [hwl]⟩
      have : (fs.map fun f => f.piece.t).take (i + 1) = (fs.map fun f => f.piece.t).take i ++ [p.t] := by
        rw [List.take_add_one]
        congr 1
        rw [List.getElem?_map] at h1 ⊢
        cases e : fs[i]? with
        | none => rw [e] at h1; cases h1
        | some f => rw [e] at h1; cases h1; rfl
      show StrL _ ((fs.map fun f => f.piece.t).take (i + 1))
      rw [this]; exact hws.snoc
    · rintro ws a ⟨hws, hwl⟩
      rw [hplen] at hws
      rw [List.take_of_length_le (by simp)] at hws
      have hfl2 : (fs.map fun f => f.piece.t).flatten = fmtL fs := by unfold fmtL; rw [List.flatMap_def]
      walk_at "ww"
      refine w_join_list (.inl (.head _)) (.listO _ _) hws (by rw [hfl2]; omega) fun t5 => ?_
      rw [hfl2]
      walk_at "ww"
      refine ⟨(fun h => by simp at h), fun _ => ?_⟩
      refine w_drop' (H' := (pa, listO pvs 0) :: (pL ++ [])) (.skip .rfl) ?_
      walk_at "ww"
      refine w_newList (fun lst => ?_) (line_le (by simp))
      walk_at "ww"
      refine w_iter_list (.inl (.tail _ (.head _))) (.listO pvs 0) fun it o hit => ?_
      refine loop_list hit (.listO pvs 0) (fun i V H => ∃ is L n te ti oi o1 o2 o3 o4, Infos is L ∧ is.map II.spec = specGo false 0 (fs.take i) ∧ is.length = i ∧ H = (lst, listO (irefs is) n) :: (L ++ (pa, listO pvs 0) :: (pL ++ [])) ∧
        V = [some (.str (S (fmtL fs)) k1), some .none, some (.str (S utf8L) t2), some (.str (S strictL) t3), some (.str (S (tailL tail)) k2), some (.ref pa), oi, some (.ref lst), some (.str (S [ordCh ((fs.take i).foldl endGo false)]) te), some (.int ((fs.take i).foldl cntGo 0 : Nat) ti), o1, o2, o3, o4])
        ?_ ?_ ?_ ?_
      · rintro i V H ⟨is, L, n, te, ti, oi, o1, o2, o3, o4, _, _, _, rfl, _⟩
        exact .inl (.tail _ (List.mem_append_right _ (.head _)))
      · exact ⟨[], [], 0, _, _, none, none, none, none, none, .nil, rfl, rfl, rfl, rfl⟩
      · rintro i x V H o hx ⟨is, L, n, te, ti, oi, o1, o2, o3, o4, hIs, hSp, hLn, rfl, rfl⟩
        obtain ⟨p, a, s1, s2, s3, s4, h1, rfl, h3⟩ := hpl i x hx
        obtain ⟨f, hfi, rfl⟩ : ∃ f, fs[i]? = some f ∧ p = f.piece := by
          rw [List.getElem?_map] at h1
          cases e : fs[i]? with
          | none => rw [e] at h1; cases h1
          | some f => rw [e] at h1; cases h1; exact ⟨f, rfl, rfl⟩
        have hfo := hf f (List.mem_of_getElem? hfi)
        have htk : fs.take (i + 1) = fs.take i ++ [f] := by rw [List.take_add_one, hfi]; rfl
        have hT : Has C ((it, o) :: (lst, listO (irefs is) n) :: (L ++ (pa, listO pvs 0) :: (pL ++ []))) a (tupO (pieceVs f.piece s1 s2 s3 s4)) := .inl (.tail _ (.tail _ (List.mem_append_right _ (.tail _ (List.mem_append_left _ h3)))))
        obtain ⟨e0, he0⟩ : ∃ e0, e0 = (fs.take i).foldl endGo false := ⟨_, rfl⟩
        obtain ⟨c0, hc0⟩ : ∃ c0, c0 = (fs.take i).foldl cntGo 0 := ⟨_, rfl⟩
        rw [← he0, ← hc0]
        obtain ⟨R0, hR0⟩ : ∃ R0, R0 = L ++ (pa, listO pvs 0) :: (pL ++ []) := ⟨_, rfl⟩
        rw [← hR0] at hT ⊢
        walk_at "ww"
        refine w_IfJ (fun V H => H = (it, o) :: (lst, listO (irefs is) n) :: R0 ∧ ∃ te, V = [some (.str (S (fmtL fs)) k1), some .none, some (.str (S utf8L) t2), some (.str (S strictL) t3), some (.str (S (tailL tail)) k2), some (.ref pa), oi, some (.ref lst), some (.str (S [ordCh (endGo e0 f)]) te), some (.int c0 ti), some (.ref a), o2, o3, o4]) ?_ ?_
        · walk_at "ww"
          refine w_itup hT (i := 0) rfl rfl (by decide) ?_
          walk_at "ww"
          cases hsg : f.sg with
          | none =>
            have e1 : f.piece.sg = [] := by unfold Fi.piece; rw [hsg]
            refine ⟨(fun h => by rw [e1] at h; cases h), fun _ => ?_⟩
            walk_at "ww"
            exact ⟨rfl, rfl, _, by unfold endGo; rw [hsg]; rfl⟩
          | some b =>
            have e1 : f.piece.sg = [ordCh b] := by unfold Fi.piece; rw [hsg]
            refine ⟨fun _ => ?_, (fun h => by rw [e1] at h; cases h)⟩
            walk_at "ww"
            refine w_itup hT (i := 0) rfl rfl (by decide) ?_
            walk_at "ww"
            rw [e1]
            exact ⟨rfl, rfl, _, by unfold endGo; rw [hsg]; rfl⟩
        · rintro V H ⟨rfl, te, rfl⟩
          walk_at "ww"
          refine w_itup hT (i := 1) rfl rfl (by decide) ?_
          walk_at "ww"
          refine w_itup hT (i := 2) (x := .str (S (decL f.size)) s3) rfl rfl (by decide) ?_
          walk_at "ww"
          refine w_int_dec hfo.hi fun t6 => ?_
          walk_at "ww"
          refine w_If ?_
          walk_at "ww"
          have hlo := hfo.lo
          refine ⟨(fun h => by simp at h; omega), fun _ => ?_⟩
          walk_at "ww"
          walk_at "yes"
          have hkd := hfo.kd
          obtain ⟨kd, hkd0⟩ : ∃ kd, kd = f.kd := ⟨_, rfl⟩
          have hkp : f.piece.kd = kd := hkd0.symm
          have hcnt : cntGo c0 f = if kd ∈ [112, 80] then c0 else c0 + 1 := by unfold cntGo; rw [hkd0]
          rw [hkp]
          rw [← hkd0] at hkd
          have hhi := hfo.hi
          refine w_IfJ (fun V H => ∃ x dx od kv tj, DO od kv ∧ KvOk kd f.size c0 kv ∧ kv.length ≤ 10 ∧ H = (x, instObj (clsK kd) dx) :: (dx, od) :: (it, o) :: (lst, listO (irefs is) n) :: R0 ∧
            V = [some (.str (S (fmtL fs)) k1), some .none, some (.str (S utf8L) t2), some (.str (S strictL) t3), some (.str (S (tailL tail)) k2), some (.ref pa), some (.ref x), some (.ref lst), some (.str (S [ordCh (endGo e0 f)]) te), some (.int (cntGo c0 f : Nat) tj), some (.ref a), some (.str (S [kd]) s2), some (.int f.size t6), some (.int c0 ti)]) ?_ ?_
          · walk_at "ww"
            have hsz : f.size ≤ 1000 := by omega
            simp only [List.mem_cons, List.not_mem_nil, or_false] at hkd
            rcases hkd with rfl | rfl | rfl | rfl | rfl | rfl | rfl
            · refine ⟨fun _ => ?_, (fun h => absurd h (by decide))⟩
              walk_at "ww"
              ktf_call 132
              walk_at "ww"
              refine w_mk_s (by omega) hlo hsz fun x dx od kv hD hK hl => ?_
              walk_at "ww"
              exact ⟨rfl, x, dx, od, kv, _, hD, hK, hl, rfl, by rw [hcnt, if_neg (by decide)]; rfl⟩
            · refine ⟨(fun h => absurd h (by decide)), fun _ => ?_⟩
              walk_at "ww"
              walk_at "yes"
              ktf_call 167
              walk_at "ww"
              refine w_mk_u (by omega) hsz fun x dx od kv hD hK hl => ?_
              walk_at "ww"
              exact ⟨rfl, x, dx, od, kv, _, hD, hK, hl, rfl, by rw [hcnt, if_neg (by decide)]; rfl⟩
            · refine ⟨(fun h => absurd h (by decide)), fun _ => ?_⟩
              walk_at "ww"
              walk_at "no"
              walk_at "no"
              walk_at "yes"
              ktf_call 196
              walk_at "ww"
              refine w_mk_b (by omega) hsz fun x dx od kv hD hK hl => ?_
              walk_at "ww"
              exact ⟨rfl, x, dx, od, kv, _, hD, hK, hl, rfl, by rw [hcnt, if_neg (by decide)]; rfl⟩
            · refine ⟨(fun h => absurd h (by decide)), fun _ => ?_⟩
              walk_at "ww"
              walk_at "no"
              walk_at "no"
              walk_at "no"
              walk_at "no"
              walk_at "yes"
              ktf_call 298
              walk_at "ww"
              refine w_mk_r (by omega) fun x dx od kv hD hK hl => ?_
              walk_at "ww"
              exact ⟨rfl, x, dx, od, kv, _, hD, hK, hl, rfl, by rw [hcnt, if_neg (by decide)]; rfl⟩
            · refine ⟨(fun h => absurd h (by decide)), fun _ => ?_⟩
              walk_at "ww"
              walk_at "no"
              walk_at "no"
              walk_at "no"
              walk_at "yes"
              ktf_call 383
              walk_at "ww"
              refine w_mk_t (by omega) fun x dx od kv hD hK hl => ?_
              walk_at "ww"
              exact ⟨rfl, x, dx, od, kv, _, hD, hK, hl, rfl, by rw [hcnt, if_neg (by decide)]; rfl⟩
            · refine ⟨(fun h => absurd h (by decide)), fun _ => ?_⟩
              walk_at "ww"
              walk_at "no"
              walk_at "no"
              walk_at "no"
              walk_at "no"
              walk_at "no"
              walk_at "yes"
              ktf_call 329
              walk_at "ww"
              refine w_mk_p (idx := c0) (by omega) fun x dx od kv hD hK hl => ?_
              walk_at "ww"
              exact ⟨rfl, x, dx, od, kv, _, hD, hK, hl, rfl, by rw [hcnt, if_pos (by decide)]⟩
            · refine ⟨(fun h => absurd h (by decide)), fun _ => ?_⟩
              walk_at "ww"
              walk_at "no"
              walk_at "no"
              walk_at "no"
              walk_at "no"
              walk_at "no"
              walk_at "no"
              walk_at "yes"
              ktf_call 348
              walk_at "ww"
              refine w_mk_P (idx := c0) (by omega) fun x dx od kv hD hK hl => ?_
              walk_at "ww"
              exact ⟨rfl, x, dx, od, kv, _, hD, hK, hl, rfl, by rw [hcnt, if_pos (by decide)]⟩
          · rintro V H ⟨x, dx, od, kv, tj, hD, hK, hkl, rfl, rfl⟩
            have hc := cls_ok C.w kd hkd
            walk_at "ww"
            refine w_setOwn (.inl (.head _)) hD hc.hs hc.hp (hc.tk aEnd (by simp)) hc.hh (Nat.le_trans hkl (by decide)) (fun o' => .tail .head) fun o' hD' => ?_
            walk_at "ww"
            refine w_append (.tail (.tail (.tail .head))) (by unfold irefs; rw [List.length_map, hLn]; have := (List.getElem?_eq_some_iff.mp hfi).1; omega) ?_
            walk_at "ww"
            subst hR0
            refine ⟨(lst, listO (irefs is ++ [.ref x]) (n + 1)) :: ((x, instObj (clsK kd) dx) :: (dx, o') :: (L ++ (pa, listO pvs 0) :: (pL ++ []))), .take (.there (.there .here)) (.take (.there (.there .here)) .rfl), is ++ [⟨x, dx, o', kd, f.size, endGo e0 f, c0⟩], (II.led ⟨x, dx, o', kd, f.size, endGo e0 f, c0⟩) ++ L, n + 1, te, tj, some (.ref x), some (.ref a), some (.str (S [kd]) s2), some (.int f.size t6), some (.int c0 ti),
              .snoc hIs ⟨hkd, _, hD', hK.put, _, kvGet_same _ _ _⟩, ?_, by simp [hLn], ?_, ?_⟩
            · rw [htk, specGo_snoc, List.map_append, hSp, ← he0, ← hc0, ← hkd0]; rfl
            · unfold irefs; rw [List.map_append]; rfl
            · rw [htk, List.foldl_append, List.foldl_append, ← he0, ← hc0]; rfl
      · rintro V H ⟨is, L, n, te, ti, oi, o1, o2, o3, o4, hIs, hSp, hLn, rfl, rfl⟩
        walk_at "ww"
        have hst : (tailL tail).length ≤ 16777216 := by cases tail <;> simp [tailL]
        refine w_truthy_S hst ?_
        rw [hplen, List.take_length] at hSp
        refine ⟨fun h => ?_, fun h => ?_⟩
        · obtain ⟨b, rfl⟩ : ∃ b, tail = some b := by
            cases tail with
            | none => exact absurd rfl (of_decide_eq_true h)
            | some b => exact ⟨b, rfl⟩
          walk_at "ww"
          refine w_newTuple (fun tp => ?_) (line_le (by simp))
          walk_at "ww"
          exact ⟨_, .take .here (.take .here (.split_left)), tp, lst, n, is, L, _, rfl, hIs, hSp, rfl⟩
        · obtain rfl : tail = none := by
            cases tail with
            | none => rfl
            | some b => exact absurd (by simp [tailL]) (of_decide_eq_false h)
          walk_at "ww"
          refine w_newTuple (fun tp => ?_) (line_le (by simp))
          walk_at "ww"
          exact ⟨_, .take .here (.take .here (.split_left)), tp, lst, n, is, L, _, rfl, hIs, hSp, rfl⟩
-- part Ru13
section
variable {Fx : Fn} {C : Cx Fx} {E : Value → Vals → Led → Prop} {V : Vals} {H : Led} {Q : Value → Vals → Led → Prop}
theorem w_sum {l : Addr} {o : Obj} {vs : List Value} {ns : List Int} (hl : Has C H l o) (lo : LO o vs) (hi : IntsAre vs ns) (h : ∀ t, Q (.int ns.sum t) V H) : W C E (call (.builtin "sum") [.ref l]) V H Q := .mk fun s v =>
  sumK C.aok.hnd v.fr v.nw (lo.isList (hl.at v)) hi fun h' tk t' F' N' => ⟨V, H, ⟨F', N', v.nd, v.gens, v.os⟩, h _⟩

/-! star arguments -/
theorem star_tup {a : Addr} {vs : List Value} {Q : List Value → Vals → Led → Prop} (ha : Has C H a (tupO vs)) (hz : vs.length ≤ 1000000) (h : Q vs V H) {s : Shared} (v : Vw C V H s) :
    StarOf (model prog C.w) C.A (fun e s' => ∃ V' H', Vw C V' H' s' ∧ E e V' H') (.ref a) (fun r s' => ∃ V' H', Vw C V' H' s' ∧ Q r V' H') s := by
  have hT : s.TypeIs (.ref a) "tuple" := ⟨_, ha.at v, rfl⟩
  unfold StarOf notIterableAtAll
  refine wpAny_bind (wpAny_specialOf hT PySem.F.slot_tuple_iter.lookup (wpAny_pure ⟨rfl, ?_⟩))
  exact wpAny_collect_seq a (.inr rfl) (ha.at v) rfl rfl (fun h' hk => ⟨V, H, v.keeps hk, by simpa using h⟩) (line_le (by simp; omega))
theorem w_args_star {e : Expr} {p pos : Pos} {rest : List Expr} {Q : List Value → Vals → Led → Prop}
    (h : W C E (eval e C.env) V H (fun x V1 H1 => ∃ a vs, x = .ref a ∧ Has C H1 a (tupO vs) ∧ vs.length ≤ 1000000 ∧ W C E (spliced (backTo pos (starEach rest C.env))) V1 H1 (fun ws V2 H2 => Q (vs ++ ws) V2 H2)))
    (he : starEach (.Starred e p :: rest) C.env = (true, eval e C.env) :: starEach rest C.env := by kernel_rfl) : W C E (spliced (backTo pos (starEach (.Starred e p :: rest) C.env))) V H Q := .mk fun s v =>
  items_star (wpAny_mono (h.run s v) (fun x s1 ⟨V1, H1, v1, a, vs, hx, ha, hz, k⟩ => by
    subst hx
    have := star_tup (E := E) (Q := fun r V' H' => r = vs ∧ V' = V1 ∧ H' = H1) ha hz ⟨rfl, rfl, rfl⟩ v1
    unfold StarOf at this ⊢
    refine wpAny_mono this (fun b s2 ⟨hb, h2⟩ => ⟨hb, wpAny_mono h2 (fun r s3 ⟨V', H', v3, e1, e2, e3⟩ => ?_) fun _ _ x => x⟩) fun _ _ x => x
    subst e1 e2 e3
    exact k.run s3 v3) fun _ _ x => x) he
theorem w_callWith_star {pos : Pos} {f : Value} {first : List Value} {args : List (Bool × Sem Value)} (hst : args.any (·.1) = true)
    (h : W C E (evalArgs f true args []) V H (fun a V1 H1 => Kept C H1 f ∧ W C E (call f (first ++ a.pos) a.kw) V1 H1 Q)) : W C E (callWith pos f first args []) V H Q := by
  unfold callWith
  refine w_bind (w_holding (h.mono fun a V1 H1 q => w_bind (w_standAt ?_)))
  refine .mk fun s v => ?_
  obtain ⟨k, hk', L⟩ := q.1 V1 s v
  simp only [hst, Bool.true_or]
  refine wpAny_bind (L.here ?_)
  have tail : ∀ {t : Sem Value}, W C E t V1 H1 Q → wpAny (model prog C.w) C.A (t >>= fun r => PySem.holding [r] point >>= fun _ => Pure.pure r) (fun a s' => ∃ V' H', Vw C V' H' s' ∧ Q a V' H') (fun e s' => ∃ V' H', Vw C V' H' s' ∧ E e V' H') s :=
    fun ht => (w_bind (ht.mono fun r _ _ q => w_bind (f := fun _ => Pure.pure r) (w_holding (w_point (w_pure q)))) : W C E (_ >>= fun r => PySem.holding [r] point >>= fun _ => Pure.pure r) V1 H1 Q).run s v
  have marked (mk : Value) : W C E (callMarked mk f (first ++ a.pos) a.kw) V1 H1 Q := by unfold callMarked; exact w_keep q.2
  rcases hk' with rfl | rfl | rfl <;> dsimp only <;> first | exact tail (marked _) | exact tail (w_operate q.2)
/-- f(x, .., *rest) -/
theorem w_cwS {pos : Pos} {f : Value} {first : List Value} {e : Expr} {rest : List Expr} (h : W C E (spliced (backTo pos (starEach (e :: rest) C.env))) V H (fun vs V1 H1 => Kept C H1 f ∧ W C E (call f (first ++ vs)) V1 H1 Q))
    (he : starEach (e :: rest) C.env = (false, eval e C.env) :: starEach rest C.env := by kernel_rfl) (hst : (backTo pos (starEach rest C.env)).any (·.1) = true := by kernel_rfl) :
    W C E (callWith pos f first (backTo pos (starEach (e :: rest) C.env)) (backToKw pos (keywordEach [] C.env))) V H Q := by
  rw [he] at h ⊢
  exact w_callWith_star (by show (false || (backTo pos (starEach rest C.env)).any (·.1)) = true; rw [hst]; rfl) (w_evalArgs h)
end
-- part Ru14
section
variable {Fx : Fn} {C : Cx Fx} {E : Value → Vals → Led → Prop} {V : Vals} {H : Led} {Q : Value → Vals → Led → Prop}
/-- f(x, .., name=k) -/
theorem w_evalArgsK {f : Value} {x : Sem Value} {rest : List (Bool × Sem Value)} {name : Str} {k : Sem Value} {Q : Args → Vals → Led → Prop} (h : W C E (spliced ((false, x) :: rest)) V H (fun vs V1 H1 => W C E k V1 H1 (fun kv V2 H2 => Q ⟨vs, [(name, kv)]⟩ V2 H2))) :
    W C E (evalArgs f true ((false, x) :: rest) [(some name, k)]) V H Q := .mk fun s v =>
  evalArgs_kw rfl (wpAny_mono (h.run s v) (fun vs s1 ⟨V1, H1, v1, q⟩ => by
    show wpAny _ _ (evalAll [k]) _ _ _
    rw [evalAll]
    refine wpAny_bind (wpAny_mono (q.run s1 v1) (fun kv s2 ⟨V2, H2, v2, q2⟩ => ?_) fun _ _ x => x)
    refine wpAny_bind (wpAny_holding (wpAny_pure (wpAny_pure ?_)))
    exact ⟨V2, H2, v2, q2⟩) fun _ _ x => x)
theorem w_cwK {pos : Pos} {f : Value} {first : List Value} {e kx : Expr} {kp : Pos} {rest : List Expr} {name : Str}
    (h : W C E (spliced (backTo pos (starEach (e :: rest) C.env))) V H (fun vs V1 H1 => W C E (eval kx C.env) V1 H1 (fun kv V2 H2 => Kept C H2 f ∧ W C E (call f (first ++ vs) [(name, kv)]) V2 H2 Q)))
    (he : starEach (e :: rest) C.env = (false, eval e C.env) :: starEach rest C.env := by kernel_rfl) (hplain : (backTo pos (starEach rest C.env)).any (·.1) = false := by kernel_rfl) :
    W C E (callWith pos f first (backTo pos (starEach (e :: rest) C.env)) (backToKw pos (keywordEach [⟨some name, kx, kp⟩] C.env))) V H Q := by
  rw [he] at h ⊢
  have ek : keywordEach [⟨some name, kx, kp⟩] C.env = [(some name, eval kx C.env)] := rfl
  rw [ek]
  refine w_callWith_of (by show ((false || (backTo pos (starEach rest C.env)).any (·.1)) || false) = false; rw [hplain]; rfl) (w_evalArgsK (h.mono fun vs V1 H1 q => w_bind (q.mono fun kv V2 H2 q2 => w_bind (w_standAt (w_pure q2)))))
/-- a bound method, as an attribute -/
theorem w_bound {x dx Cc f : Addr} {od : Obj} {kv : KV} {name : Str} {expr : Bool} (hx : Has C H x (instObj Cc dx)) (hd : Has C H dx od) (hD : DO od kv) (hg : plainGet (KF C.w) Cc name = true) (hh : hasDictIn (KF C.w) Cc = true) (ha : findIn (KF C.w) (.ref Cc) name = some (some (.ref f)))
    (hf : isFn (KF C.w) (.ref f) = true) (hgf : specialIn (KF C.w) (.ref f) "__get__" = some (some (.builtin "function.__get__"))) (ht : takesIn (KF C.w) (.ref f) = some false) (hc : copiedNames.contains name = false) (hv : kvGet name kv = none)
    (h : ∀ q, Q (.ref q) V ((q, methodObj (.ref f) (.ref x)) :: H)) : W C E (getAttr (.ref x) name expr) V H Q := .mk fun s v => by
  obtain ⟨es, n, rfl, he⟩ := hD.ex
  refine kbm_bound v.fr C.base.kin v.nw (v.instAt hx hd) hg hh ha hf hgf ht hc (by rw [he.get, hv]) fun q h' F' N' l => ⟨V, _, ⟨F', N', List.nodup_cons.mpr ⟨fun hm => ?_, v.nd⟩, v.gens, v.os⟩, h _⟩
  obtain ⟨p, hp, e⟩ := List.mem_map.mp hm
  exact Nat.lt_irrefl _ (e ▸ l p hp)
end
-- part F14
/-! the compiled format -/
noncomputable abbrev cInfos : Str := Str.ofString "_infos"
noncomputable abbrev cOrder : Str := Str.ofString "_byte_order"
noncomputable abbrev cBits : Str := Str.ofString "_number_of_bits_to_unpack"
noncomputable abbrev cArgs : Str := Str.ofString "_number_of_arguments"
noncomputable abbrev cfNames : List Str := [cInfos, cOrder, cBits, cArgs]
theorem cf_ok (w : World) : ClsOk w 507 cfNames := ⟨by kernel_rfl, by kernel_rfl, by kernel_rfl, fun _ => by kernel_rfl, by repeat (first | exact in_nil | refine in_cons (by kernel_rfl) ?_), by repeat (first | exact in_nil | refine in_cons (by kernel_rfl) ?_)⟩
theorem Infos.at {is : List II} {L : Led} (h : Infos is L) : ∀ i ∈ is, IOk i ∧ (i.x, instObj (clsK i.kd) i.dx) ∈ L ∧ (i.dx, i.od) ∈ L := by
  induction h with
  | nil => intro i hi; cases hi
  | @snoc is L j hh hj ih =>
    intro i hi
    rcases List.mem_append.mp hi with q | q
    · obtain ⟨a, b, c⟩ := ih i q
      exact ⟨a, List.mem_append_right _ b, List.mem_append_right _ c⟩
    · rw [List.mem_singleton.mp q]
      exact ⟨hj, .head _, .tail _ (.head _)⟩
noncomputable def sc_cinit : Scope := eScope (eArg (sExpr ((bodyOf (fdAt 417)).getD 3 default)))
@[reducible] noncomputable def fn_cinitC : Fn := { addr := 417, names := [Str.ofString "info"], fd := reFd (fdAt 417) (relabel sc_cinit (callEnv (fdAt 417) 0 417)), mkE := fun L o => reScope (newEnv sc_cinit L mainGlobals [] (callEnv (fdAt 417) o 417).qual none .none (some (callEnv (fdAt 417) o 417)) builtinsNs) (relabel sc_cinit (callEnv (fdAt 417) o 417)) }
theorem cinitC_ok : FnOk fn_cinitC :=
  { nd := by decide +kernel, loc := by decide +kernel, kind := by kernel_rfl, dbg := by decide +kernel, gl := by kernel_rfl, bn := by kernel_rfl, en := fun _ _ => ⟨by kernel_rfl, rfl, by kernel_rfl, by kernel_rfl⟩ }
noncomputable def bitsOf (is : List II) : Int := (is.map fun i => (i.size : Int)).sum
theorem c_init_sp {w : World} {x dx : Addr} {fs : List Fi} {tail : Option Bool} {t1 t2 t3 : Tok} (hf : ∀ f ∈ fs, f.Ok) (hne : fs ≠ []) (hl : (fmtL fs).length ≤ 900) :
    SpC w 5 (.ref 417) ⟨[.ref x, .str (S (fmtL fs ++ tailL tail)) t1, .none, .str (S utf8L) t2, .str (S strictL) t3], []⟩ [(x, instObj 507 dx), (dx, dictOf [] 0)] (fun _ => True) (fun v P' => v = .none ∧ ∃ od l n is L t tb, Infos is L ∧ is.map II.spec = specGo false 0 fs ∧
      P' = (x, instObj 507 dx) :: (dx, od) :: (l, listO (irefs is) n) :: L ∧ DO od [(cInfos, .ref l), (cOrder, .str (S [ordCh (tail.getD false)]) t), (cBits, .int (bitsOf is) tb)]) NoX := by
  refine SpC.def (F := fn_c_init) (n := 4) (vals := [_, _, .none, _, _]) (c_init_is w) rfl rfl (fun s A p => binds_K (T := 412) (o := tupO [.none, .str (Str.ofString "utf-8") 936, .str (Str.ofString "strict") 937]) p.kin rfl (by kernel_rfl) rfl rfl rfl) (by show 5 ≤ 7; decide)
    (V₀ := [some (.ref x), some (.str (S (fmtL fs ++ tailL tail)) t1), some .none, some (.str (S utf8L) t2), some (.str (S strictL) t3), none, none]) rfl (fun C hw hn _ => W.shrink ?_)
  have ok := (c_init_is w).ok
  subst hw
  have hc := cf_ok C.w
  walk_at "ww"
  ktf_call 390
  walk_at "ww"
  refine w_sp (P := []) (parse_sp hf hne hl) (by omega) (.refl _) (fun _ _ => trivial) ?_
  rintro v P' ⟨a, l, n, is, L, t, rfl, hI, hS, rfl⟩
  refine w_assign_Tup (.inl (.head _)) (by kernel_rfl) (by kernel_rfl) ?_
  walk_at "ww"
  have hD0 : DO (dictOf [] 0) [] := ⟨_, _, rfl, .nil⟩
  refine w_perm (H' := (x, instObj 507 dx) :: (dx, dictOf [] 0) :: (l, listO (irefs is) n) :: L ++ [(a, tupO [.ref l, .str (S [ordCh (tail.getD false)]) t])]) ?_ ?_
  · refine List.Perm.trans ?_ (List.perm_append_comm (l₁ := [(x, instObj 507 dx), (dx, dictOf [] 0)]))
    refine (List.Perm.cons _ (List.Perm.cons _ ?_))
    exact List.perm_append_comm (l₂ := [(a, tupO [.ref l, .str (S [ordCh (tail.getD false)]) t])])
  walk_at "ww"
  refine w_setOwn (.inl (.head _)) hD0 hc.hs hc.hp (hc.tk cInfos (by simp)) hc.hh (kv_le (by kernel_rfl)) (fun o' => .tail .head) fun o1 hD1 => ?_
  walk_at "ww"
  refine w_setOwn (.inl (.head _)) hD1 hc.hs hc.hp (hc.tk cOrder (by simp)) hc.hh (kv_le (by kernel_rfl)) (fun o' => .tail .head) fun o2 hD2 => ?_
  walk_at "ww"
  have hlen : is.length = fs.length := by
    have e : ∀ (fs : List Fi) e n, (specGo e n fs).length = fs.length := by
      intro fs
      induction fs with
      | nil => intros; rfl
      | cons f r ih => intro e n; show (specGo _ _ r).length + 1 = _; rw [ih]; rfl
    have := congrArg List.length hS
    rwa [List.length_map, e] at this
  have hfl : fs.length ≤ (fmtL fs).length := by
    have := len_flat (ps := fs.map Fi.piece) fun p hp => by obtain ⟨f, hm, rfl⟩ := List.mem_map.mp hp; exact (hf f hm).piece
    rw [List.length_map, List.flatMap_map] at this; exact this
  refine w_LC (F' := fn_cinitC) cinitC_ok (cl := []) (fun L => by kernel_rfl) (by kernel_rfl) (by kernel_rfl) (by kernel_rfl) (by kernel_rfl) ?_
  walk_at "ww"
  refine ⟨l, listO (irefs is) n, irefs is, rfl, .inl (.tail _ (.tail _ (.head _))), .listO _ _, by unfold irefs; rw [List.length_map]; omega, fun i ws => IntsAre ws ((is.take i).map fun i => (i.size : Int)), .nil, ?_, ?_⟩
  · rintro C' V' H' i y ws hw' hn' ho hold hy hws hV'
    have ok := cinitC_ok
    obtain ⟨j, hj, rfl⟩ : ∃ j, is[i]? = some j ∧ y = .ref j.x := by
      unfold irefs at hy
      rw [List.getElem?_map] at hy
      cases e : is[i]? with
      | none => rw [e] at hy; cases hy
      | some x => rw [e] at hy; cases hy; exact ⟨x, rfl, rfl⟩
    obtain ⟨v0, rfl⟩ : ∃ v0, V' = [v0] := by
      match V', hV' with
      | [v0], _ => exact ⟨v0, rfl⟩
    obtain ⟨hjo, hm1, hm2⟩ := hI.at j (List.mem_of_getElem? hj)
    obtain ⟨kv, hkD, hkK, _⟩ := hjo.ex
    obtain ⟨tz, hz⟩ := hkK.z
    have hcj := cls_ok C'.w j.kd hjo.kd
    walk_at "ww"
    refine w_tests0 ⟨fun _ => ?_, (fun h => nomatch h)⟩
    walk_at "ww"
    refine w_getOwn (.inr (hold _ _ (.inl (.tail _ (.tail _ (.tail _ (List.mem_append_left _ hm1))))))) (.inr (hold _ _ (.inl (.tail _ (.tail _ (.tail _ (List.mem_append_left _ hm2))))))) hkD (hcj.hg _) hcj.hh (hcj.fi aSize (by simp)) hz rfl ?_
    refine ⟨rfl, .rfl, ?_⟩
    show IntsAre _ ((is.take (i + 1)).map fun i => (i.size : Int))
    rw [List.take_add_one, hj, List.map_append]
    exact ints_snoc hws _ _
  · rintro ws b hws
    rw [show (irefs is).length = is.length by unfold irefs; rw [List.length_map], List.take_length] at hws
    walk_at "ww"
    refine w_sum (.inl (.head _)) (.listO _ _) hws fun tb => ?_
    walk_at "ww"
    refine w_drop' (.skip .rfl) ?_
    refine w_setOwn (.inl (.head _)) hD2 hc.hs hc.hp (hc.tk cBits (by simp)) hc.hh (kv_le (by kernel_rfl)) (fun o' => .tail .head) fun o3 hD3 => ?_
    walk_at "ww"
    exact ⟨(x, instObj 507 dx) :: (dx, o3) :: (l, listO (irefs is) n) :: L, .take .here (.take .here (.take .here .split_left)), rfl, o3, l, n, is, L, t, tb, hI, hS, rfl, hD3.cast (by kernel_rfl)⟩
-- part Ru15
section
variable {Fx : Fn} {C : Cx Fx} {E : Value → Vals → Led → Prop} {V : Vals} {H : Led}
theorem w_AugAttr {o value : Expr} {attr : Str} {tpos pos : Pos} {op : Operator} {Q : Flow → Vals → Led → Prop}
    (h : W C E (eval o C.env) V H (fun ov V1 H1 => W C E (getAttr ov attr true) V1 H1 (fun old V2 H2 => W C E (eval value C.env) V2 H2 (fun v V3 H3 => W C E (inplaceOp op old v) V3 H3 (fun new V4 H4 => W C E (setAttr ov attr new) V4 H4 (fun _ V5 H5 => Q .next V5 H5)))))) :
    W C E (exec (.AugAssign (.Attribute o attr tpos) op value pos) C.env) V H Q := by
  rw [arm_exec_AugAssign_2]
  refine w_bind (w_standAt (w_bind (h.mono fun ov V1 H1 q => w_bind (w_holding (w_bind (w_standAt (w_bind (q.mono fun old V2 H2 q => w_bind (w_holding (q.mono fun v V3 H3 q => w_bind (w_standAt (w_operate (q.mono fun new V4 H4 q => w_bind (w_standAt (w_bind (w_holding (q.mono fun _ V5 H5 q => w_bind (w_release (w_pure q)))))))))))))))))))
variable {Q : Value → Vals → Led → Prop}
theorem w_isi_inst {x dx Cc : Addr} {od : Obj} {c : Value} {b : Bool} (hx : Has C H x (instObj Cc dx)) (hd : Has C H dx od) (hg : plainGet (KF C.w) Cc "__class__" = true) (hdct : hasDictIn (KF C.w) Cc = true) (ha : findIn (KF C.w) (.ref Cc) "__class__" = some (some (.builtin "object.__class__")))
    (hm : mroIn (KF C.w) Cc (.type "object") = some true) (e : kitOne (KF C.w) (.ref Cc) c = some b) (h : Q (.bool b) V H) : W C E (call (.builtin "isinstance") [.ref x, c]) V H Q :=
  w_isi (kitx_own (ox := instObj Cc dx) (od := od) hg hdct ha (by kernel_rfl) (by kernel_rfl) hm) (fun s v => v.instAt hx hd) e (by intro h; cases h) h
theorem w_isi_instT {x dx Cc tp : Addr} {od : Obj} {its : List Value} {b : Bool} (hx : Has C H x (instObj Cc dx)) (hd : Has C H dx od) (hg : plainGet (KF C.w) Cc "__class__" = true) (hdct : hasDictIn (KF C.w) Cc = true) (ha : findIn (KF C.w) (.ref Cc) "__class__" = some (some (.builtin "object.__class__")))
    (hm : mroIn (KF C.w) Cc (.type "object") = some true) (ht : Has C H tp (tupO its)) (e : kitAny (KF C.w) (.ref Cc) its = some b) (h : Q (.bool b) V H) : W C E (call (.builtin "isinstance") [.ref x, .ref tp]) V H Q :=
  w_isi_tup (kitx_own (ox := instObj Cc dx) (od := od) hg hdct ha (by kernel_rfl) (by kernel_rfl) hm) (fun s v => v.instAt hx hd) ht e (by intro h; cases h) h
end
-- part F15
/-! what kind an info is -/
structure KindOk (w : World) (kd : Nat) : Prop where
  hdct : hasDictIn (KF w) (clsK kd) = true
  ha : findIn (KF w) (.ref (clsK kd)) "__class__" = some (some (.builtin "object.__class__"))
  hm : mroIn (KF w) (clsK kd) (.type "object") = some true
  pad : kitOne (KF w) (.ref (clsK kd)) (.ref 310) = some (decide (kd ∈ [112, 80]))
  rt : kitAny (KF w) (.ref (clsK kd)) [.ref 298, .ref 383] = some (decide (kd ∈ [114, 116]))
theorem kind_ok (w : World) (kd : Nat) (h : kd ∈ [115, 117, 98, 114, 116, 112, 80]) : KindOk w kd := by
  simp only [List.mem_cons, List.not_mem_nil, or_false] at h
  rcases h with rfl | rfl | rfl | rfl | rfl | rfl | rfl <;> exact ⟨by kernel_rfl, by kernel_rfl, by kernel_rfl, by kernel_rfl, by kernel_rfl⟩
section
variable {Fx : Fn} {C : Cx Fx} {E : Value → Vals → Led → Prop} {V : Vals} {H : Led} {Q : Value → Vals → Led → Prop}
theorem w_isPad {i : II} (hi : IOk i) (hx : Has C H i.x (instObj (clsK i.kd) i.dx)) (hd : Has C H i.dx i.od) (h : Q (.bool (decide (i.kd ∈ [112, 80]))) V H) : W C E (call (.builtin "isinstance") [.ref i.x, .ref 310]) V H Q :=
  let k := kind_ok C.w i.kd hi.kd
  w_isi_inst hx hd ((cls_ok C.w i.kd hi.kd).hg _) k.hdct k.ha k.hm k.pad h
theorem w_isRT {i : II} {tp : Addr} (hi : IOk i) (hx : Has C H i.x (instObj (clsK i.kd) i.dx)) (hd : Has C H i.dx i.od) (ht : Has C H tp (tupO [.ref 298, .ref 383])) (h : Q (.bool (decide (i.kd ∈ [114, 116]))) V H) : W C E (call (.builtin "isinstance") [.ref i.x, .ref tp]) V H Q :=
  let k := kind_ok C.w i.kd hi.kd
  w_isi_instT hx hd ((cls_ok C.w i.kd hi.kd).hg _) k.hdct k.ha k.hm ht k.rt h
end
-- part F16
/-! CompiledFormat(..) -/
noncomputable def nArgs (is : List II) : Nat := (is.filter fun i => !decide (i.kd ∈ [112, 80])).length
structure CfOk (od : Obj) (l : Addr) (is : List II) (low : Bool) : Prop where
  ex : ∃ t tb ta, DO od [(cInfos, .ref l), (cOrder, .str (S [ordCh low]) t), (cBits, .int (bitsOf is) tb), (cArgs, .int (nArgs is) ta)]
theorem cf_init_body {w : World} {x dx : Addr} {fs : List Fi} {tail : Option Bool} {t1 t2 t3 : Tok} (hf : ∀ f ∈ fs, f.Ok) (hne : fs ≠ []) (hl : (fmtL fs).length ≤ 900) (C : Cx fn_cf_init) (hw : C.w = w) (hn : C.n = 5) :
    WA C (bodyOf (fdAt 476)) NoE (execs (bodyOf (fdAt 476)) C.env) [some (.ref x), some (.str (S (fmtL fs ++ tailL tail)) t1), some (.str (S utf8L) t2), some (.str (S strictL) t3), none] [(x, instObj 507 dx), (dx, dictOf [] 0)]
      (fun f _ H' => ∃ H'', SubP H'' H' ∧ ((match f with | .ret v => v | _ => .none) = Value.none ∧ ∃ od l n is L, Infos is L ∧ is.map II.spec = specGo false 0 fs ∧ H'' = (x, instObj 507 dx) :: (dx, od) :: (l, listO (irefs is) n) :: L ∧ CfOk od l is (tail.getD false))) := by
  have ok := (cf_init_is w).ok
  subst hw
  have hc := cf_ok C.w
  refine wa_cons (wa_Expr (wa_MethodCall (wa_super (cda := 475) (cc := 463) (D := 507) (cf_init_is C.w) (.inl (.head _)) (.inl (.tail _ (.head _))) rfl (by tb_start) rfl rfl rfl (by kernel_rfl) rfl rfl (by kernel_rfl) (by kernel_rfl) (by kernel_rfl) (by kernel_rfl) (by kernel_rfl) (by kernel_rfl) (by kernel_rfl) (by kernel_rfl) fun so => ?_)) (by kernel_rfl) (by kernel_rfl))
  refine w_superM (f2 := 417) (.head _) (.inl (.tail _ (.head _))) (.inl (.tail _ (.tail _ (.head _)))) (by kernel_rfl) (by kernel_rfl) (by kernel_rfl) (by kernel_rfl) fun q => ?_
  walk_at "ww"
  refine w_callM (P := [(x, instObj 507 dx), (dx, dictOf [] 0)]) (R := [(q, methodObj (.ref 417) (.ref x)), (so, ks_superObj 507 x 507)]) (by simp) (c_init_sp hf hne hl) (by omega) (by kcf_m) (fun _ _ => trivial) ?_ (fun _ _ x => x.elim)
  rintro v P' ⟨rfl, od, l, n, is, L, t, tb, hI, hS, rfl, hD⟩
  refine w_drop' (H' := (x, instObj 507 dx) :: (dx, od) :: (l, listO (irefs is) n) :: L) (.take .here (.take .here (.take .here .split_left))) ?_
  walk_at "ww"
  refine w_setOwn (.inl (.head _)) hD hc.hs hc.hp (hc.tk cArgs (by simp)) hc.hh (kv_le (by kernel_rfl)) (fun o' => .tail .head) fun o1 hD1 => ?_
  walk_at "ww"
  rename_i ka
  have hD1 := hD1.cast (kv' := [(cInfos, .ref l), (cOrder, .str (S [ordCh (tail.getD false)]) t), (cBits, .int (bitsOf is) tb), (cArgs, .int (nArgs (is.take 0)) ka)]) (by kernel_rfl)
  refine w_getOwn (.inl (.head _)) (.inl (.tail _ (.head _))) hD1 (hc.hg _) hc.hh (hc.fi cInfos (by simp)) (val := .ref l) (by kernel_rfl) rfl ?_
  refine w_iter_list (.inl (.tail _ (.tail _ (.head _)))) (.listO _ _) fun it o hit => ?_
  refine loop_list hit (.listO (irefs is) n) (fun i V H => ∃ od ta oi, DO od [(cInfos, .ref l), (cOrder, .str (S [ordCh (tail.getD false)]) t), (cBits, .int (bitsOf is) tb), (cArgs, .int (nArgs (is.take i)) ta)] ∧ H = (x, instObj 507 dx) :: (dx, od) :: (l, listO (irefs is) n) :: L ∧
    V = [some (.ref x), some (.str (S (fmtL fs ++ tailL tail)) t1), some (.str (S utf8L) t2), some (.str (S strictL) t3), oi]) ?_ ⟨o1, ka, none, hD1, rfl, rfl⟩ ?_ ?_
  · rintro i V H ⟨od, ta, oi, _, rfl, rfl⟩
    exact .inl (.tail _ (.tail _ (.head _)))
  · rintro i y V H o hy ⟨od, ta, oi, hD, rfl, rfl⟩
    obtain ⟨j, hj, rfl⟩ : ∃ j, is[i]? = some j ∧ y = .ref j.x := by
      unfold irefs at hy
      rw [List.getElem?_map] at hy
      cases e : is[i]? with
      | none => rw [e] at hy; cases hy
      | some x => rw [e] at hy; cases hy; exact ⟨x, rfl, rfl⟩
    obtain ⟨hjo, hm1, hm2⟩ := hI.at j (List.mem_of_getElem? hj)
    have tk : nArgs (is.take (i + 1)) = nArgs (is.take i) + (if j.kd ∈ [112, 80] then 0 else 1) := by
      unfold nArgs
      rw [List.take_add_one, hj, List.filter_append, List.length_append]
      by_cases hk : j.kd ∈ [112, 80]
      · rw [if_pos hk]; simp only [Option.toList_some, List.filter_cons, decide_eq_true hk, Bool.not_true]; rfl
      · rw [if_neg hk]; simp only [Option.toList_some, List.filter_cons, decide_eq_false hk, Bool.not_false]; rfl
    walk_at "ww"
    refine w_If ?_
    walk_at "ww"
    ktf_call 310
    walk_at "ww"
    refine w_isPad hjo (.inl (.tail _ (.tail _ (.tail _ (.tail _ hm1))))) (.inl (.tail _ (.tail _ (.tail _ (.tail _ hm2))))) ?_
    walk_at "ww"
    refine ⟨fun h => ?_, fun h => ?_⟩
    · have hk : ¬ j.kd ∈ [112, 80] := by simpa using h
      rw [if_neg hk] at tk
      walk_at "ww"
      refine w_AugAttr ?_
      walk_at "ww"
      refine w_getOwn (.inl (.tail _ (.head _))) (.inl (.tail _ (.tail _ (.head _)))) hD (hc.hg _) hc.hh (hc.fi cArgs (by simp)) (val := .int (nArgs (is.take i)) ta) (by kernel_rfl) rfl ?_
      walk_at "ww"
      refine w_setOwn (.inl (.tail _ (.head _))) hD hc.hs hc.hp (hc.tk cArgs (by simp)) hc.hh (kv_le (by kernel_rfl)) (fun o' => .tail (.tail .head)) fun o2 hD2 => ?_
      walk_at "ww"
      rename_i kb
      exact ⟨_, .rfl, o2, kb, _, by rw [tk]; exact hD2.cast (by kernel_rfl), rfl, rfl⟩
    · have hk : j.kd ∈ [112, 80] := of_decide_eq_true (by cases hd : decide (j.kd ∈ [112, 80]) <;> rw [hd] at h <;> first | rfl | cases h)
      rw [if_pos hk, Nat.add_zero] at tk
      walk_at "ww"
      exact ⟨_, .rfl, od, ta, _, by rw [tk]; exact hD, rfl, rfl⟩
  · rintro V H ⟨od, ta, oi, hD, rfl, rfl⟩
    walk_at "ww"
    rw [show (irefs is).length = is.length by unfold irefs; rw [List.length_map], List.take_length] at hD
    exact ⟨_, .rfl, rfl, od, l, n, is, L, hI, hS, rfl, ⟨t, tb, ta, hD⟩⟩

theorem cf_init1_sp {w : World} {x dx : Addr} {fs : List Fi} {tail : Option Bool} {t1 : Tok} (hf : ∀ f ∈ fs, f.Ok) (hne : fs ≠ []) (hl : (fmtL fs).length ≤ 900) :
    SpC w 6 (.ref 476) ⟨[.ref x, .str (S (fmtL fs ++ tailL tail)) t1], []⟩ [(x, instObj 507 dx), (dx, dictOf [] 0)] (fun _ => True) (fun v P' => v = .none ∧ ∃ od l n is L, Infos is L ∧ is.map II.spec = specGo false 0 fs ∧ P' = (x, instObj 507 dx) :: (dx, od) :: (l, listO (irefs is) n) :: L ∧ CfOk od l is (tail.getD false)) NoX := by
  have e1 := sc17
  have e2 := sc20
  refine SpC.defA (F := fn_cf_init) (n := 5) (vals := [.ref x, .str (S (fmtL fs ++ tailL tail)) t1, .str (Str.ofString "utf-8") 1027, .str (Str.ofString "strict") 1028]) (cf_init_is w) rfl rfl (fun s A p => binds_K (T := 468) (o := tupO [.str (Str.ofString "utf-8") 1027, .str (Str.ofString "strict") 1028]) p.kin rfl (by kernel_rfl) rfl rfl rfl) (by show 4 ≤ 5; decide)
    (V₀ := [some (.ref x), some (.str (S (fmtL fs ++ tailL tail)) t1), some (.str (Str.ofString "utf-8") 1027), some (.str (Str.ofString "strict") 1028), none]) rfl (fun C hw hn _ => ?_)
  rw [e1, e2]
  exact cf_init_body hf hne hl C hw hn
theorem cf_init3_sp {w : World} {x dx : Addr} {fs : List Fi} {tail : Option Bool} {t1 t2 t3 : Tok} (hf : ∀ f ∈ fs, f.Ok) (hne : fs ≠ []) (hl : (fmtL fs).length ≤ 900) :
    SpC w 6 (.ref 476) ⟨[.ref x, .str (S (fmtL fs ++ tailL tail)) t1, .str (S utf8L) t2, .str (S strictL) t3], []⟩ [(x, instObj 507 dx), (dx, dictOf [] 0)] (fun _ => True) (fun v P' => v = .none ∧ ∃ od l n is L, Infos is L ∧ is.map II.spec = specGo false 0 fs ∧ P' = (x, instObj 507 dx) :: (dx, od) :: (l, listO (irefs is) n) :: L ∧ CfOk od l is (tail.getD false)) NoX := by
  refine SpC.defA (F := fn_cf_init) (n := 5) (vals := [.ref x, .str (S (fmtL fs ++ tailL tail)) t1, .str (S utf8L) t2, .str (S strictL) t3]) (cf_init_is w) rfl rfl (fun s A p => binds_K (T := 468) (o := tupO [.str (Str.ofString "utf-8") 1027, .str (Str.ofString "strict") 1028]) p.kin rfl (by kernel_rfl) rfl rfl rfl) (by show 4 ≤ 5; decide)
    (V₀ := [some (.ref x), some (.str (S (fmtL fs ++ tailL tail)) t1), some (.str (S utf8L) t2), some (.str (S strictL) t3), none]) rfl (fun C hw hn _ => ?_)
  exact cf_init_body hf hne hl C hw hn
section
variable {Fx : Fn} {C : Cx Fx} {E : Value → Vals → Led → Prop} {V : Vals} {H : Led} {Q : Value → Vals → Led → Prop} {fs : List Fi} {tail : Option Bool} {t1 t2 t3 : Tok}
/-- a compiled format: its objects -/
structure CfL (x : Addr) (is : List II) (low : Bool) (Z : Led) : Prop where
  ex : ∃ dx od l n L, Infos is L ∧ CfOk od l is low ∧ Z = (x, instObj 507 dx) :: (dx, od) :: (l, listO (irefs is) n) :: L
theorem w_newCf1 (hn : 7 ≤ C.n) (hf : ∀ f ∈ fs, f.Ok) (hne : fs ≠ []) (hl : (fmtL fs).length ≤ 900) (h : ∀ x is Z, is.map II.spec = specGo false 0 fs → CfL x is (tail.getD false) Z → Q (.ref x) V (Z ++ H)) :
    W C E (call (.ref 507) [.str (S (fmtL fs ++ tailL tail)) t1]) V H Q := by
  refine w_new (pre := fun _ => True) (by kernel_rfl) (fI := 476) (by kernel_rfl) (by kernel_rfl) hn (fun _ _ => trivial) (fun x dx => cf_init1_sp hf hne hl) ?_
  rintro x dx v P' ⟨rfl, od, l, n, is, L, hI, hS, rfl, hO⟩
  exact ⟨rfl, h x is _ hS ⟨dx, od, l, n, L, hI, hO, rfl⟩⟩
theorem w_newCf3 (hn : 7 ≤ C.n) (hf : ∀ f ∈ fs, f.Ok) (hne : fs ≠ []) (hl : (fmtL fs).length ≤ 900) (h : ∀ x is Z, is.map II.spec = specGo false 0 fs → CfL x is (tail.getD false) Z → Q (.ref x) V (Z ++ H)) :
    W C E (call (.ref 507) [.str (S (fmtL fs ++ tailL tail)) t1, .str (S utf8L) t2, .str (S strictL) t3]) V H Q := by
  refine w_new (pre := fun _ => True) (by kernel_rfl) (fI := 476) (by kernel_rfl) (by kernel_rfl) hn (fun _ _ => trivial) (fun x dx => cf_init3_sp hf hne hl) ?_
  rintro x dx v P' ⟨rfl, od, l, n, is, L, hI, hS, rfl, hO⟩
  exact ⟨rfl, h x is _ hS ⟨dx, od, l, n, L, hI, hO, rfl⟩⟩
end
-- part F17
/-! pack and unpack of an info, by its kind -/
noncomputable def fPack (kd : Nat) : Addr := if kd = 115 then 122 else if kd = 117 then 157 else if kd = 98 then 185 else if kd = 114 then 288 else if kd = 116 then 373 else if kd = 112 then 326 else 345
noncomputable def fUnpack (kd : Nat) : Addr := if kd = 115 then 129 else if kd = 117 then 164 else if kd = 98 then 193 else if kd = 114 then 295 else 380
structure MethOk (w : World) (kd : Nat) : Prop where
  pf : findIn (KF w) (.ref (clsK kd)) aPack = some (some (.ref (fPack kd)))
  pt : isFn (KF w) (.ref (fPack kd)) = true
  pk : keepIn (KF w) (.ref (fPack kd)) = true
theorem meth_ok (w : World) (kd : Nat) (h : kd ∈ [115, 117, 98, 114, 116, 112, 80]) : MethOk w kd := by
  simp only [List.mem_cons, List.not_mem_nil, or_false] at h
  rcases h with rfl | rfl | rfl | rfl | rfl | rfl | rfl <;> exact ⟨by kernel_rfl, by kernel_rfl, by kernel_rfl⟩
structure MethOkU (w : World) (kd : Nat) : Prop where
  pf : findIn (KF w) (.ref (clsK kd)) aUnpack = some (some (.ref (fUnpack kd)))
  pt : isFn (KF w) (.ref (fUnpack kd)) = true
  pk : keepIn (KF w) (.ref (fUnpack kd)) = true
theorem methU_ok (w : World) (kd : Nat) (h : kd ∈ [115, 117, 98, 114, 116]) : MethOkU w kd := by
  simp only [List.mem_cons, List.not_mem_nil, or_false] at h
  rcases h with rfl | rfl | rfl | rfl | rfl <;> exact ⟨by kernel_rfl, by kernel_rfl, by kernel_rfl⟩

/-! the bytes of the values -/
theorem bytesN_succ (n v : Nat) : bytesN (n + 1) v = bytesN n (v / 256) ++ [(v % 256).toUInt8] := by unfold bytesN; rw [digs]; simp
theorem bytesN_zero (v : Nat) : bytesN 0 v = [] := rfl
theorem bytes_t {c k : Nat} (h2 : c < 123) (h3 : 1 ≤ k) (h4 : k ≤ 2) : bytesN k (c * 2 ^ (8 * k - 8)) = c.toUInt8 :: List.replicate (k - 1) 0 := by
  have : k = 1 ∨ k = 2 := by omega
  rcases this with rfl | rfl
  · rw [bytesN_succ, bytesN_zero, show c * 2 ^ (8 * 1 - 8) % 256 = c by simp; omega]; rfl
  · rw [bytesN_succ, bytesN_succ, bytesN_zero, show c * 2 ^ (8 * 2 - 8) / 256 % 256 = c by simp; omega, show c * 2 ^ (8 * 2 - 8) % 256 = 0 by simp]; rfl
theorem bytes_t3 {c d : Nat} (h2 : c < 123) : bytesN 3 (c * 65536 + 195 * 256 + 128 + d % 64) = [c.toUInt8, 195, (128 + d % 64).toUInt8] := by
  rw [bytesN_succ, bytesN_succ, bytesN_succ, bytesN_zero, show (c * 65536 + 195 * 256 + 128 + d % 64) / 256 / 256 % 256 = c by omega, show (c * 65536 + 195 * 256 + 128 + d % 64) / 256 % 256 = 195 by omega,
    show (c * 65536 + 195 * 256 + 128 + d % 64) % 256 = 128 + d % 64 by omega]
  rfl
theorem take_bits {size k num x : Nat} (hk : size ≤ 8 * k) (hx : x < 2 ^ (8 * k - size)) : (bitsN (8 * k) (num * 2 ^ (8 * k - size) + x)).take size = bitsN size num := by
  have e : 8 * k = size + (8 * k - size) := by omega
  conv => lhs; rw [show bitsN (8 * k) = bitsN (size + (8 * k - size)) by rw [← e]]
  rw [bitsN_append, List.take_left' (bitsN_len _ _)]
  rw [Nat.mul_comm, Nat.mul_add_div (Nat.pow_pos (by decide)), Nat.div_eq_of_lt hx, Nat.add_zero]

theorem toNat_lt {n : Nat} (h : n < 256) : (n.toUInt8).toNat = n := by
  show n % 256 = n
  exact Nat.mod_eq_of_lt h

section
variable {Fx : Fn} {C : Cx Fx} {E : Value → Vals → Led → Prop} {V : Vals} {H : Led} {Q : Value → Vals → Led → Prop} {i : II}
theorem w_packM {pl : Sem Bool} {Q : Value × List Value → Vals → Led → Prop} (hi : IOk i) (hx : Has C H i.x (instObj (clsK i.kd) i.dx)) (hd : Has C H i.dx i.od) (h : Q (.ref (fPack i.kd), [.ref i.x]) V H) : W C E (getMethod (.ref i.x) aPack pl) V H Q := by
  obtain ⟨kv, hD, hK, _⟩ := hi.ex
  have m := meth_ok C.w i.kd hi.kd
  exact w_methInst hx hd hD ((cls_ok C.w i.kd hi.kd).hg _) m.pf m.pt hK.np h
theorem w_unpackM {pl : Sem Bool} {Q : Value × List Value → Vals → Led → Prop} (hi : IOk i) (hk : i.kd ∈ [115, 117, 98, 114, 116]) (hx : Has C H i.x (instObj (clsK i.kd) i.dx)) (hd : Has C H i.dx i.od) (h : Q (.ref (fUnpack i.kd), [.ref i.x]) V H) : W C E (getMethod (.ref i.x) aUnpack pl) V H Q := by
  obtain ⟨kv, hD, hK, _⟩ := hi.ex
  have m := methU_ok C.w i.kd hk
  exact w_methInst hx hd hD ((cls_ok C.w i.kd hi.kd).hg _) m.pf m.pt hK.nu h
theorem kept_pack (hi : IOk i) : Kept C H (.ref (fPack i.kd)) := kept_K (meth_ok C.w i.kd hi.kd).pk
theorem kept_unpack (hk : i.kd ∈ [115, 117, 98, 114, 116]) : Kept C H (.ref (fUnpack i.kd)) := kept_K (methU_ok C.w i.kd hk).pk

/-- info.pack(value) -/
theorem w_packC {kd size num : Nat} {val back : PV} {v : Value} (hn : 4 ≤ C.n) (hi : IOk i) (hx : Has C H i.x (instObj (clsK i.kd) i.dx)) (hd : Has C H i.dx i.od) (hg : FG kd size num val back) (hkd : i.kd = kd) (hsz : i.size = size) (hnp : kd ∉ [112, 80]) (hv : val.Is v)
    (h : ∀ t, Q (.str (S (chs (bitsN size num))) t) V H) : W C E (call (.ref (fPack i.kd)) [.ref i.x, v]) V H Q := by
  obtain ⟨kv, hD, hK, _⟩ := hi.ex
  obtain ⟨tz, hz⟩ := hK.z
  have hc := cls_ok C.w i.kd hi.kd
  have fin : ∀ {n : Nat} {t : Sem Value} {Cc : Addr} (bs : List Nat), n ≤ C.n → bs = chs (bitsN size num) → Has C H i.x (instObj Cc i.dx) → Sp C.w n t [] (infoPre i.x i.dx Cc i.od) (fun v P' => ∃ t, v = .str (S bs) t ∧ P' = []) NoX → W C E t V H Q := by
    rintro n t Cc bs hn rfl hx' sp
    refine w_spz sp hn (fun hp k => ⟨k _ _ hx', k _ _ hd⟩) (fun _ _ ⟨_, _, e⟩ => e) ?_
    rintro v P' ⟨t, rfl, _⟩
    exact h t
  cases hg with
  | u h1 h2 h3 =>
    obtain ⟨t2, hm⟩ := hK.u (.inl hkd)
    obtain ⟨t, rfl⟩ := hv
    rw [hsz] at hz hm
    rw [hkd] at hc hx ⊢
    exact fin _ (by omega) rfl hx (u_pack_sp hc hD hz hm (by omega) h3)
  | @s _ _ i' h1 h2 h3 h4 h5 =>
    obtain ⟨t2, t3, hm1, hm2⟩ := hK.s hkd
    obtain ⟨t, rfl⟩ := hv
    rw [hsz] at hz hm1 hm2
    rw [hkd] at hc hx ⊢
    exact fin _ (by omega) (by rw [← h5, Int.toNat_natCast]) hx (s_pack_sp hc hD hz hm1 hm2 h1 (by omega) h3 h4)
  | @b _ n' h1 h2 h3 =>
    obtain ⟨t2, hm⟩ := hK.u (.inr hkd)
    obtain ⟨t, rfl⟩ := hv
    rw [hsz] at hz hm
    rw [hkd] at hc hx ⊢
    exact fin _ (by omega) rfl hx (b_pack_sp hD hz hm h1 (by omega))
  | @r _ _ x' h1 h2 h3 h4 =>
    obtain ⟨t, rfl⟩ := hv
    rw [hsz] at hz
    rw [hkd] at hc hx ⊢
    refine fin _ (by omega) ?_ hx (r_pack_sp hc hD hz (by omega) (by rw [bytesN_len]; omega) (by rw [bytesN_len]; omega))
    rw [bitsB_bytesN, take_bits (by omega) h4]
  | @t c k h1 h2 h3 h4 =>
    obtain ⟨t, rfl⟩ := hv
    rw [hsz] at hz
    rw [hkd] at hc hx ⊢
    have he : [c].flatMap Str.utf8Of = [c.toUInt8] := by
      unfold Str.utf8Of; rw [List.flatMap_cons, List.flatMap_nil, if_pos (by omega)]; rfl
    refine fin _ (by omega) ?_ hx (t_pack_sp (l := [c]) (k := k) hc hD hz (by intro x hx; rw [List.mem_singleton.mp hx]; unfold Str.isSurrogate; simp; omega) he (by simp; omega) (by omega))
    rw [← bitsB_bytesN, bytes_t h2 h3 h4]; rfl
  | @t3 c d h1 h2 h3 h4 =>
    obtain ⟨t, rfl⟩ := hv
    rw [hsz] at hz
    rw [hkd] at hc hx ⊢
    have he : [c, d].flatMap Str.utf8Of = [c.toUInt8, 195, (128 + d % 64).toUInt8] := by
      unfold Str.utf8Of; rw [List.flatMap_cons, List.flatMap_cons, List.flatMap_nil, if_pos (by omega), if_neg (by omega), if_pos (by omega), show 0xC0 + d / 64 = 195 by omega]; rfl
    refine fin _ (by omega) ?_ hx (t_pack_sp (l := [c, d]) (k := 3) hc hD hz (by
      intro x hx
      rcases List.mem_cons.mp hx with rfl | hx
      · unfold Str.isSurrogate; simp; omega
      · rw [List.mem_singleton.mp hx]; unfold Str.isSurrogate; simp; omega) he (Nat.le_refl 3) (by omega))
    rw [show (24 : Nat) = 8 * 3 from rfl, ← bitsB_bytesN, bytes_t3 h2]; rfl
  | p h1 h2 => exact absurd (by simp) hnp
  | P h1 h2 => exact absurd (by simp) hnp

/-- info.pack() of padding -/
theorem w_packP (hn : 4 ≤ C.n) (hi : IOk i) (hx : Has C H i.x (instObj (clsK i.kd) i.dx)) (hd : Has C H i.dx i.od) (hp : i.kd ∈ [112, 80]) (hz0 : i.size ≤ 1000)
    (h : ∀ t, Q (.str (S (chs (List.replicate i.size (decide (i.kd = 80))))) t) V H) : W C E (call (.ref (fPack i.kd)) [.ref i.x]) V H Q := by
  obtain ⟨kv, hD, hK, _⟩ := hi.ex
  obtain ⟨tz, hz⟩ := hK.z
  have hc := cls_ok C.w i.kd hi.kd
  have hp' : i.kd = 112 ∨ i.kd = 80 := by simpa using hp
  rcases hp' with hkd | hkd
  · rw [hkd] at hc hx h ⊢
    refine w_spz (zp_pack_sp hc hD hz hz0) (by omega) (fun hp k => ⟨k _ _ hx, k _ _ hd⟩) (fun _ _ ⟨_, _, e⟩ => e) ?_
    rintro v P' ⟨t, rfl, _⟩
    exact h t
  · rw [hkd] at hc hx h ⊢
    refine w_spz (op_pack_sp hc hD hz hz0) (by omega) (fun hp k => ⟨k _ _ hx, k _ _ hd⟩) (fun _ _ ⟨_, _, e⟩ => e) ?_
    rintro v P' ⟨t, rfl, _⟩
    exact h t

theorem bits_head {size num : Nat} (h1 : 1 ≤ size) : ∃ r, bitsN size num = decide (num / 2 ^ (size - 1) % 2 = 1) :: r := by
  obtain ⟨k, rfl⟩ : ∃ k, size = 1 + k := ⟨size - 1, by omega⟩
  refine ⟨bitsN k num, ?_⟩
  rw [bitsN_append, show (1 + k - 1) = k by omega]
  rfl
theorem bits_ne {size num : Nat} (h1 : 1 ≤ size) : bitsN size num ≠ [] := fun e => by have := congrArg List.length e; rw [bitsN_len] at this; simp at this; omega

theorem unB_bits {k num : Nat} (h : num < 2 ^ (8 * k)) : unB (bitsN (8 * k) num) = bytesN k num := by
  unfold unB
  rw [bitsN_len, valb_bits, Nat.mod_eq_of_lt h, show (8 * k + 7) / 8 = k by omega, Nat.sub_self, Nat.pow_zero, Nat.mul_one]

/-- info.unpack(bits) -/
theorem w_unpackC {kd size num : Nat} {val back : PV} {tb : Tok} (hn : 4 ≤ C.n) (hi : IOk i) (hx : Has C H i.x (instObj (clsK i.kd) i.dx)) (hd : Has C H i.dx i.od) (hg : FG kd size num val back) (hkd : i.kd = kd) (hsz : i.size = size) (hnp : kd ∉ [112, 80])
    (h : ∀ v, back.Is v → Q v V H) : W C E (call (.ref (fUnpack i.kd)) [.ref i.x, .str (S (chs (bitsN size num))) tb]) V H Q := by
  obtain ⟨kv, hD, hK, _⟩ := hi.ex
  obtain ⟨tz, hz⟩ := hK.z
  have hc := cls_ok C.w i.kd hi.kd
  cases hg with
  | u h1 h2 h3 =>
    rw [hkd]
    refine w_spz (u_unpack_sp (bits_ne h1) (by rw [bitsN_len]; omega)) (by omega) (fun _ _ => trivial) (fun _ _ ⟨_, _, e⟩ => e) ?_
    rintro v P' ⟨t, rfl, _⟩
    rw [valb_bits, Nat.mod_eq_of_lt h3]
    exact h _ ⟨t, rfl⟩
  | @s _ _ i' h1 h2 h3 h4 h5 =>
    rw [hkd]
    obtain ⟨r, hr⟩ := bits_head (num := num) h1
    refine w_spz (s_unpack_sp hr (by rw [bitsN_len]; omega)) (by omega) (fun _ _ => trivial) (fun _ _ ⟨_, _, e⟩ => e) ?_
    rintro v P' ⟨t, rfl, _⟩
    refine h _ ⟨t, ?_⟩
    rw [valb_bits, bitsN_len]
    obtain ⟨k, rfl⟩ : ∃ k, size = k + 1 := ⟨size - 1, by omega⟩
    have ep : 2 ^ (k + 1) = 2 * 2 ^ k := by rw [Nat.pow_succ, Nat.mul_comm]
    have hpos : 0 < 2 ^ k := Nat.pow_pos (by decide)
    rw [ep] at h5 ⊢
    rw [Nat.add_sub_cancel] at h3 h4 ⊢
    obtain ⟨p, hp⟩ : ∃ p, p = 2 ^ k := ⟨_, rfl⟩
    rw [← hp] at h3 h4 h5 hpos ⊢
    clear ep hr
    have hb : num < 2 * p := by
      have := Int.emod_lt_of_pos i' (show (0 : Int) < ((2 * p : Nat) : Int) by omega)
      omega
    rw [Nat.mod_eq_of_lt hb]
    by_cases hneg : i' < 0
    · have e5 : (num : Int) = i' + ((2 * p : Nat) : Int) := by
        rw [h5, ← Int.add_emod_right]
        exact Int.emod_eq_of_lt (by omega) (by omega)
      have hdv : num / p = 1 := by
        rw [Nat.div_eq_iff hpos]; omega
      rw [if_pos (by rw [hdv]; rfl)]
      exact intv (by omega)
    · have e5 : (num : Int) = i' := by
        rw [h5]; exact Int.emod_eq_of_lt (by omega) (by omega)
      have hdv : num / p = 0 := Nat.div_eq_of_lt (by omega)
      rw [if_neg (by rw [hdv]; decide)]
      exact intv (by omega)
  | @b _ n' h1 h2 h3 =>
    rw [hkd] at hx ⊢
    refine w_spz (b_unpack_sp (od := i.od) (bits_ne h1) (by rw [bitsN_len]; omega)) (by omega) (fun hp k => ⟨k _ _ hx, k _ _ hd⟩) (fun _ _ ⟨_, e⟩ => e) ?_
    rintro v P' ⟨rfl, _⟩
    refine h _ ?_
    show Value.bool _ = Value.bool _
    rw [valb_bits]
    have h22 : 2 ≤ 2 ^ size := by
      have := Nat.pow_le_pow_right (show 0 < 2 by decide) h1
      simpa using this
    rw [Nat.mod_eq_of_lt (show min n' 1 < 2 ^ size by omega)]
    congr 1
    by_cases hz : n' = 0
    · subst hz; rfl
    · rw [decide_eq_true (by omega), show min n' 1 = 1 by omega]; rfl
  | @r _ _ x' h1 h2 h3 h4 =>
    rw [hsz] at hz
    rw [hkd] at hc hx ⊢
    refine w_spz (r_unpack_sp hc hD hz (bitsN_len _ _) (by omega)) (by omega) (fun hp k => ⟨k _ _ hx, k _ _ hd⟩) (fun _ _ ⟨_, _, e⟩ => e) ?_
    rintro v P' ⟨t, rfl, _⟩
    refine h _ ⟨t, ?_⟩
    unfold unB
    rw [bitsN_len, valb_bits, Nat.mod_eq_of_lt h3]
  | @t c k h1 h2 h3 h4 =>
    obtain ⟨t2, t3, hen, her⟩ := hK.tx hkd
    rw [hsz] at hz
    rw [hkd] at hc hx ⊢
    have hlt : c * 2 ^ (8 * k - 8) < 2 ^ (8 * k) := by
      have e : 2 ^ (8 * k) = 2 ^ 8 * 2 ^ (8 * k - 8) := by rw [← Nat.pow_add]; congr 1; omega
      rw [e]; exact Nat.mul_lt_mul_of_pos_right (by omega) (Nat.pow_pos (by decide))
    have eb := (unB_bits hlt).trans (bytes_t h2 h3 h4)
    have hk : k = 1 ∨ k = 2 := by omega
    have ec := toNat_lt (n := c) (by omega)
    rcases hk with rfl | rfl
    · refine w_spz (t_unpack_sp (n := 1) (l := [c]) hc hD hz hen her (bitsN_len _ _) (by omega) (by rw [eb]; simp) (fun id => by rw [eb]; have := dec1 id (some (PySem.Str.ofString "strict")) c.toUInt8 (by rw [ec]; omega); rw [ec] at this; exact this) (Nat.le_of_ble_eq_true rfl)) (by omega) (fun hp k => ⟨k _ _ hx, k _ _ hd⟩) (fun _ _ ⟨_, _, e⟩ => e) ?_
      rintro v P' ⟨t, rfl, _⟩
      exact h _ ⟨t, rfl⟩
    · refine w_spz (t_unpack_sp (n := 2) (l := [c, 0]) hc hD hz hen her (bitsN_len _ _) (by omega) (by rw [eb]; simp) (fun id => by rw [eb]; have := dec2 id (some (PySem.Str.ofString "strict")) c.toUInt8 0 (by rw [ec]; omega) (by decide); rw [ec] at this; exact this) (Nat.le_of_ble_eq_true rfl)) (by omega) (fun hp k => ⟨k _ _ hx, k _ _ hd⟩) (fun _ _ ⟨_, _, e⟩ => e) ?_
      rintro v P' ⟨t, rfl, _⟩
      exact h _ ⟨t, rfl⟩
  | @t3 c d h1 h2 h3 h4 =>
    obtain ⟨t2, t3, hen, her⟩ := hK.tx hkd
    rw [hsz] at hz
    rw [hkd] at hc hx ⊢
    have eb := (unB_bits (k := 3) (num := c * 65536 + 195 * 256 + 128 + d % 64) (by omega)).trans (bytes_t3 h2)
    have ec := toNat_lt (n := c) (by omega)
    have ed := toNat_lt (n := 128 + d % 64) (by omega)
    refine w_spz (t_unpack_sp (n := 3) (l := [c, d]) hc hD hz hen her (bitsN_len _ _) (by omega) (by rw [show (24 : Nat) = 8 * 3 from rfl, eb]; simp) (fun id => by
      rw [show (24 : Nat) = 8 * 3 from rfl, eb]
      have := dec3 id (some (PySem.Str.ofString "strict")) c.toUInt8 195 (128 + d % 64).toUInt8 (by rw [ec]; omega) (by decide) (by rw [ed]; omega)
      rw [ec, ed, show (195 : UInt8).toNat % 32 * 64 + (128 + d % 64) % 64 = d by show 195 % 32 * 64 + _ = d; omega] at this; exact this) (Nat.le_of_ble_eq_true rfl)) (by omega) (fun hp k => ⟨k _ _ hx, k _ _ hd⟩) (fun _ _ ⟨_, _, e⟩ => e) ?_
    rintro v P' ⟨t, rfl, _⟩
    exact h _ ⟨t, rfl⟩
  | p h1 h2 => exact absurd (by simp) hnp
  | P h1 h2 => exact absurd (by simp) hnp
end
-- part F18
local macro_rules | `(tactic| ktn_call 1 9) => `(tactic| with_reducible first
  | (apply kept_pack; assumption)
  | (apply kept_unpack; assumption))
/-! pack_value -/
noncomputable def chk : Nat → List Bool → Nat → List Bool
  | 0, vb, _ => vb
  | f + 1, vb, r => if vb.length ≤ r then vb else vb.drop (vb.length - r) ++ chk f (vb.take (vb.length - r)) 8
/-- the bits of a value as they are laid from place pos on -/
noncomputable def encB (low : Bool) (kd : Nat) (little : Bool) (pos : Nat) (vb : List Bool) : List Bool :=
  if (!low || decide (kd ∈ [114, 116])) = true then (if little then vb.reverse else vb) else chk vb.length (if little then vb.reverse else vb) (8 - pos % 8)
theorem chk_len : ∀ (f : Nat) (vb : List Bool) (r : Nat), (chk f vb r).length = vb.length := by
  intro f
  induction f with
  | zero => intros; rfl
  | succ f ih =>
    intro vb r
    unfold chk
    split
    · rfl
    · rw [List.length_append, ih, List.length_drop, List.length_take]; omega
theorem encB_len (low : Bool) (kd : Nat) (little : Bool) (pos : Nat) (vb : List Bool) : (encB low kd little pos vb).length = vb.length := by
  unfold encB
  split
  · split <;> simp
  · rw [chk_len]; split <;> simp
/-- a compiled format and an info, read -/
noncomputable def pvPre (x dx : Addr) (od : Obj) (i : II) : Heap → Prop := fun h => (h.get? x = some (instObj 507 dx) ∧ h.get? dx = some od) ∧ h.get? i.x = some (instObj (clsK i.kd) i.dx) ∧ h.get? i.dx = some i.od
theorem packval_sp {w : World} {x dx l : Addr} {od : Obj} {is : List II} {low : Bool} {i : II} {num : Nat} {val back : PV} {v : Value} {bits : List Bool} {tb : Tok} (hO : CfOk od l is low) (hi : IOk i) (hg : FG i.kd i.size num val back) (hnp : i.kd ∉ [112, 80]) (hv : val.Is v) (hl : bits.length ≤ 1000) :
    Sp w 5 (call (.ref 424) [.ref x, .ref i.x, v, .str (S (chs bits)) tb]) [] (pvPre x dx od i) (fun v P' => ∃ t, v = .str (S (chs (bits ++ encB low i.kd i.little bits.length (bitsN i.size num)))) t ∧ P' = []) NoX := by
  refine Sp.def (F := fn_packval) (n := 4) (vals := [_, _, _, _]) (packval_is w) rfl rfl (fun s A p => BindsTo.of_eq (by kernel_rfl)) (by show 4 ≤ 6; decide) (V₀ := [some (.ref x), some (.ref i.x), some v, some (.str (S (chs bits)) tb), none, none]) rfl (fun C hw hn hb => W.shrink ?_)
  have ok := (packval_is w).ok
  subst hw
  obtain ⟨⟨hb1, hb2⟩, hb3, hb4⟩ := hb
  obtain ⟨ko, kb, ka, hD⟩ := hO.ex
  have hc := cf_ok C.w
  obtain ⟨kv, hDi, hKi, te, hen⟩ := id hi.ex
  have hci := cls_ok C.w i.kd hi.kd
  have hsz : 1 ≤ i.size ∧ i.size ≤ 24 := by
    have : ∀ {kd size num : Nat} {val back : PV}, FG kd size num val back → 1 ≤ size ∧ size ≤ 24 := by
      intro kd size num val back hg
      cases hg <;> omega
    exact this hg
  walk_at "ww"
  refine w_packM hi (.inr hb3) (.inr hb4) ?_
  walk_at "ww"
  refine w_packC (by omega) hi (.inr hb3) (.inr hb4) hg rfl rfl hnp hv fun t1 => ?_
  walk_at "ww"
  obtain ⟨wb, hwb⟩ : ∃ wb, wb = if i.little then (bitsN i.size num).reverse else bitsN i.size num := ⟨_, rfl⟩
  have hwl : wb.length = i.size := by rw [hwb]; split <;> simp [bitsN_len]
  refine w_IfJ (fun V H => H = [] ∧ ∃ t, V = [some (.ref x), some (.ref i.x), some v, some (.str (S (chs bits)) tb), some (.str (S (chs wb)) t), none]) ?_ ?_
  · walk_at "ww"
    refine w_getOwn (.inr hb3) (.inr hb4) hDi (hci.hg _) hci.hh (hci.fi aEnd (by simp)) hen rfl ?_
    walk_at "ww"
    cases hlt : i.little with
    | true =>
      refine ⟨fun _ => ?_, (fun h => nomatch h)⟩
      walk_at "ww"
      refine cut_rev rfl (by rw [chs_len, bitsN_len]; omega) fun t2 => ?_
      walk_at "ww"
      exact ⟨rfl, rfl, t2, by rw [hwb, hlt, if_pos rfl, chs_rev]⟩
    | false =>
      refine ⟨(fun h => nomatch h), fun _ => ?_⟩
      walk_at "ww"
      exact ⟨rfl, rfl, t1, by rw [hwb, hlt]; rfl⟩
  rintro V H ⟨rfl, t3, rfl⟩
  walk_at "ww"
  have hE : encB low i.kd i.little bits.length (bitsN i.size num) = if (!low || decide (i.kd ∈ [114, 116])) = true then wb else chk i.size wb (8 - bits.length % 8) := by
    unfold encB; rw [← hwb, bitsN_len]
  refine w_IfJ (fun V H => ∃ t o1 o2, V = [some (.ref x), some (.ref i.x), some v, some (.str (S (chs (bits ++ encB low i.kd i.little bits.length (bitsN i.size num)))) t), o1, o2]) ?_ ?_
  · walk_at "ww"
    refine w_getOwn (.inr hb1) (.inr hb2) hD (hc.hg _) hc.hh (hc.fi cOrder (by simp)) (val := .str (S [ordCh low]) ko) (by kernel_rfl) rfl ?_
    walk_at "ww"
    have fin : (!low || decide (i.kd ∈ [114, 116])) = true → ∀ k, (some (Value.str (S (chs bits ++ chs wb)) k) : Option Value) = some (.str (S (chs (bits ++ encB low i.kd i.little bits.length (bitsN i.size num)))) k) := fun h k => by
      rw [hE, if_pos h, chs_append]
    refine ⟨fun hlow => ⟨fun _ => ?_, fun h => nomatch h⟩, fun hlow => ?_⟩
    · have hlow' : low = false := by cases low with | false => rfl | true => exact absurd hlow (by decide)
      walk_at "ww"
      refine w_iadd_S (by rw [chs_len, chs_len]; omega) fun t4 => ?_
      walk_at "ww"
      exact ⟨rfl, t4, _, _, by rw [fin (by rw [hlow']; rfl)]⟩
    · have hlow' : low = true := by cases low with | true => rfl | false => exact absurd hlow (by decide)
      walk_at "ww"
      ktf_call 298
      walk_at "ww"
      ktf_call 383
      walk_at "ww"
      refine w_newTuple (fun tp => ?_) (line_le (by simp))
      walk_at "ww"
      refine w_isRT hi (.inr hb3) (.inr hb4) (.inl (.head _)) ?_
      walk_at "ww"
      refine ⟨fun hrt => ⟨fun _ => ?_, fun h => nomatch h⟩, fun hrt => ?_⟩
      · walk_at "ww"
        refine w_iadd_S (by rw [chs_len, chs_len]; omega) fun t4 => ?_
        walk_at "ww"
        exact ⟨rfl, t4, _, _, by rw [fin (by rw [hrt, Bool.or_true])]⟩
      · walk_at "ww"
        refine ⟨(fun h => nomatch h), fun _ => ?_⟩
        refine w_drop' (H' := []) .nil ?_
        walk_at "ww"
        refine w_len_S (by rw [chs_len]; omega) fun t5 => ?_
        refine w_drop' (H' := []) .nil ?_
        walk_at "ww"
        refine w_len_S (by rw [chs_len]; omega) fun t6 => ?_
        rw [chs_len, chs_len]
        walk_at "ww"
        refine w_mod_int (by decide) fun t7 => ?_
        walk_at "ww"
        rw [hE, if_neg (by rw [hlow', hrt]; decide)]
        refine w_While (fun m V H => H = [] ∧ ∃ (b vb : List Bool) (r : Nat), ∃ t1 t2 t3, V = [some (.ref x), some (.ref i.x), some v, some (.str (S (chs b)) t1), some (.str (S (chs vb)) t2), some (.int ((vb.length : Int) - (r : Int)) t3)] ∧
          vb.length ≤ m ∧ 1 ≤ r ∧ b.length + vb.length ≤ 1100 ∧ b ++ chk m vb r = bits ++ chk i.size wb (8 - bits.length % 8)) (n := i.size) ⟨rfl, bits, wb, 8 - bits.length % 8, _, _, _, by rw [show ((8 - bits.length % 8 : Nat) : Int) = 8 - (bits.length : Int) % 8 by omega], by omega, by omega, by omega, rfl⟩ ?_
        rintro m V H ⟨rfl, b, vb, r, k1, k2, k3, rfl, hm, hr, hbl, he⟩
        walk_at "ww"
        refine ⟨fun hc => ?_, fun hc => ?_⟩
        · have hpos : r < vb.length := by have := of_decide_eq_true hc; omega
          obtain ⟨m, rfl⟩ : ∃ m', m = m' + 1 := ⟨m - 1, by omega⟩
          have ea : (vb.length : Int) - (r : Int) = ((vb.length - r : Nat) : Int) := by omega
          walk_at "ww"
          refine cut_str (.int _ _) .none (by rw [chs_len]; omega) fun k4 => ?_
          rw [cutF ea, chs_drop]
          refine w_iadd_S (by rw [chs_len, chs_len, List.length_drop]; omega) fun k5 => ?_
          rw [← chs_append]
          walk_at "ww"
          refine cut_str .none (.int _ _) (by rw [chs_len]; omega) fun k6 => ?_
          rw [cutT ea, chs_take]
          walk_at "ww"
          refine ⟨m, by omega, rfl, _, _, 8, _, _, _, by rw [List.length_take, show ((min (vb.length - r) vb.length : Nat) : Int) - ((8 : Nat) : Int) = (vb.length : Int) - (r : Int) - 8 by omega], by rw [List.length_take]; omega, by omega, by rw [List.length_append, List.length_take, List.length_drop]; omega, ?_⟩
          rw [← he, List.append_assoc]
          conv => rhs; unfold chk
          rw [if_neg (by omega)]
        · have hz : vb.length ≤ r := by have := of_decide_eq_false hc; omega
          have hres : chk m vb r = vb := by cases m with | zero => rfl | succ m => unfold chk; rw [if_pos hz]
          walk_at "ww"
          refine w_iadd_S (by rw [chs_len, chs_len]; omega) fun k5 => ?_
          rw [← chs_append]
          walk_at "ww"
          exact ⟨rfl, k5, _, _, by rw [← he, hres]⟩
  · rintro V H ⟨t4, o1, o2, rfl⟩
    walk_at "ww"
    exact ⟨[], .nil, t4, rfl, rfl⟩
-- part Ba1
theorem ba_mro : mroOf (.type "bytearray") = pure [.type "bytearray", .type "object"] := by rw [mroOf_type]; kernel_rfl
theorem ba_lookup_new : typeLookup (.type "bytearray") "__new__" = pure (some (.builtin "bytearray.__new__")) := by rw [typeLookup_type, builtinLookup_eq_fast]; kernel_rfl
theorem ba_slot_init : Slot "bytearray" "__init__" "bytearray.__init__" :=
  .of (owner := "bytearray") (n := "__init__") (by rw [typeLookup_type, builtinLookup_eq_fast]; kernel_rfl) (by decide +kernel) (by decide +kernel) (by decide +kernel)
    (by first | exact .inl (by decide +kernel) | exact .inr (by decide +kernel)) (by rw [isSubtype_type]; kernel_rfl)
theorem ba_slot_len : Slot "bytearray" "__len__" "bytearray.__len__" :=
  .of (owner := "bytearray") (n := "__len__") (by rw [typeLookup_type, builtinLookup_eq_fast]; kernel_rfl) (by decide +kernel) (by decide +kernel) (by decide +kernel)
    (by first | exact .inl (by decide +kernel) | exact .inr (by decide +kernel)) (by rw [isSubtype_type]; kernel_rfl)
theorem ba_slot_set : Slot "bytearray" "__setitem__" "bytearray.__setitem__" :=
  .of (owner := "bytearray") (n := "__setitem__") (by rw [typeLookup_type, builtinLookup_eq_fast]; kernel_rfl) (by decide +kernel) (by decide +kernel) (by decide +kernel)
    (by first | exact .inl (by decide +kernel) | exact .inr (by decide +kernel)) (by rw [isSubtype_type]; kernel_rfl)
theorem ba_called : TypeCalled "bytearray" "bytearray.__new__" "bytearray.__init__" :=
  ⟨by decide +kernel, by decide +kernel, ⟨_, _, ba_mro⟩, madeBy_type ba_mro ba_lookup_new (by decide +kernel), by decide +kernel, by rw [isSubtype_type]; kernel_rfl, ba_slot_init⟩
theorem ba_typeCall (a : Value) : checkTypeCall "bytearray" ⟨[a], []⟩ = pure () := by kernel_rfl
theorem ba_newCall (a : Value) : checkBuiltinCall "bytearray.__new__" ⟨[.type "bytearray", a], []⟩ = pure () := by kernel_rfl
theorem ba_entry_new : entryFor table "bytearray.__new__" = some Builtin.«list.__new__» := entryFor_alias (id' := "list.__new__") (by rw [fastTable_eq_tree]; kernel_rfl) (by decide +kernel) (by decide +kernel) (by rw [fastTable_eq_tree]; kernel_rfl)
theorem ba_entry_init : entryFor table "bytearray.__init__" = some Builtin.«bytearray.__init__» := entryFor_of_tree (by kernel_rfl)
theorem ba_entry_len : entryFor table "bytearray.__len__" = some Builtin.«bytearray.__len__» := entryFor_of_tree (by kernel_rfl)
theorem ba_entry_set : entryFor table "bytearray.__setitem__" = some Builtin.«bytearray.__setitem__» := entryFor_of_tree (by kernel_rfl)
theorem ba_plain_new : plainId "bytearray.__new__" = true := by decide +kernel
theorem ba_plain_init : plainId "bytearray.__init__" = true := by decide +kernel
theorem ba_sub : isSubtype (.type "bytearray") (.type "bytearray") = pure true := by rw [isSubtype_type]; kernel_rfl
theorem ba_bind (v : Value) : Builtin.Bytes.bindOptional "bytearray.__init__" "bytearray" ["source", "encoding", "errors"] [v] [] = pure [some v, none, none] := by kernel_rfl
theorem ba_release : typeLookup (.type "bytearray") "__release_buffer__" = pure (some (.builtin "bytearray.__release_buffer__")) := by rw [typeLookup_type, builtinLookup_eq_fast]; kernel_rfl
theorem ba_buffer : typeLookup (.type "bytearray") "__buffer__" = pure (some (.builtin "bytearray.__buffer__")) := by rw [typeLookup_type, builtinLookup_eq_fast]; kernel_rfl
theorem b_buffer : typeLookup (.type "bytes") "__buffer__" = pure (some (.builtin "bytes.__buffer__")) := by rw [typeLookup_type, builtinLookup_eq_fast]; kernel_rfl
theorem int_index : typeLookup (.type "int") "__index__" = pure (some (.builtin "int.__index__")) := by rw [typeLookup_type, builtinLookup_eq_fast]; kernel_rfl
theorem b_no_index : typeLookup (.type "bytes") "__index__" = pure none := by rw [typeLookup_type, builtinLookup_eq_fast]; kernel_rfl
theorem b_no_int : typeLookup (.type "bytes") "__int__" = pure none := by rw [typeLookup_type, builtinLookup_eq_fast]; kernel_rfl
theorem b_no_float : typeLookup (.type "bytes") "__float__" = pure none := by rw [typeLookup_type, builtinLookup_eq_fast]; kernel_rfl
theorem ba_no_bytes : typeLookup (.type "bytearray") "__bytes__" = pure none := by rw [typeLookup_type, builtinLookup_eq_fast]; kernel_rfl
theorem ba_no_index : typeLookup (.type "bytearray") "__index__" = pure none := by rw [typeLookup_type, builtinLookup_eq_fast]; kernel_rfl
theorem b_bytes : typeLookup (.type "bytes") "__bytes__" = pure (some (.builtin "bytes.__bytes__")) := by rw [typeLookup_type, builtinLookup_eq_fast]; kernel_rfl
theorem b_release : typeLookup (.type "bytes") "__release_buffer__" = pure none := by rw [typeLookup_type, builtinLookup_eq_fast]; kernel_rfl
theorem b_sub_ba : isSubtype (.type "bytes") (.type "bytearray") = pure false := by rw [isSubtype_type]; kernel_rfl
theorem b_sub_complex : isSubtype (.type "bytes") (.type "complex") = pure false := by rw [isSubtype_type]; kernel_rfl
-- part N0
/-- a code that holds no bytearray for a decoder -/
noncomputable def NoDec : Code → Bool
  | .builtin id _ => !Builtin.Bytes.decodersThatHold.contains id
  | _ => true
structure DC (Γ : Ctx) : Prop where
  all : ∀ x ∈ Γ.code :: Γ.below.map (·.1), NoDec x = true
theorem DC.enter {Γ : Ctx} (h : DC Γ) {c : Code} (hc : NoDec c = true) (hd : Option Value) (p : Pos) : DC (Γ.enter c hd p) := ⟨fun x hx => by
  rcases List.mem_cons.mp hx with rfl | hx
  · exact hc
  · exact h.all x hx⟩
theorem DC.goto {Γ : Ctx} (h : DC Γ) {c : Code} (hc : NoDec c = true) : DC (Γ.goto c) := ⟨fun x hx => by
  rcases List.mem_cons.mp hx with rfl | hx
  · exact hc
  · exact h.all x (List.mem_cons_of_mem _ hx)⟩

noncomputable def wpN {α : Type} (M : Model) (A : Around) (t : Sem α) (Q : α → Shared → Prop) (E : Value → Shared → Prop) (s : Shared) : Prop :=
  ∀ Γ p, Γ.In A → DC Γ → Sem.wp M Γ t (fun a _ s' => Q a s') (fun e _ s' => E e s') p s
noncomputable def codeN (M : Model) (A : Around) (c : Code) (R : Result → Shared → Prop) (s : Shared) : Prop :=
  ∀ Γ p, Γ.code = c → Γ.Below A → DC Γ → wpCode M Γ R p s

section
variable {α β : Type} {M : Model} {A : Around} {E : Value → Shared → Prop} {s : Shared}
theorem wpN_any {t : Sem α} {Q : α → Shared → Prop} (h : wpAny M A t Q E s) : wpN M A t Q E s := fun Γ p hΓ _ => h Γ p hΓ
theorem wpN_pure {a : α} {Q : α → Shared → Prop} (h : Q a s) : wpN M A (pure a) Q E s := fun _ _ _ _ => h
theorem wpN_mono {t : Sem α} {Q Q' : α → Shared → Prop} {E' : Value → Shared → Prop} (h : wpN M A t Q E s) (k : ∀ a s, Q a s → Q' a s) (ke : ∀ e s, E e s → E' e s) : wpN M A t Q' E' s :=
  fun Γ p hΓ hD => Sem.wp_mono M Γ t (fun a _ s => k a s) (fun e _ s => ke e s) p s (h Γ p hΓ hD)
theorem wpN_bind {m : Sem α} {f : α → Sem β} {Q : β → Shared → Prop} (h : wpN M A m (fun a s' => wpN M A (f a) Q E s') E s) : wpN M A (m >>= f) Q E s := fun Γ p hΓ hD => by
  rw [Sem.wp_bind']
  exact Sem.wp_mono M Γ m (fun a p' s' h' => h' Γ p' hΓ hD) (fun _ _ _ h' => h') p s (h Γ p hΓ hD)
/-- a step of the common kind, then on -/
theorem wpN_then {m : Sem α} {f : α → Sem β} {Q : β → Shared → Prop} (h : wpAny M A m (fun a s' => wpN M A (f a) Q E s') E s) : wpN M A (m >>= f) Q E s := wpN_bind (wpN_any h)
theorem wpN_holding {vs : List Value} {m : Sem α} {Q : α → Shared → Prop} (h : wpN M A m Q E s) : wpN M A (holding vs m) Q E s :=
  fun Γ p hΓ hD => by rw [Sem.wp_holding]; exact h Γ p hΓ hD
theorem wpN_operate {vs : List Value} {m : Sem Value} {Q : Value → Shared → Prop} (h : wpN M A m Q E s) : wpN M A (operate vs m) Q E s :=
  fun Γ p hΓ hD => by rw [Sem.wp_operate]; exact h Γ p hΓ hD
theorem wpN_onRaise {m : Sem α} {k : Value → Sem Unit} {Q : α → Shared → Prop} (h : wpN M A m Q (fun _ _ => False) s) : wpN M A (m.onRaise k) Q E s := fun Γ p hΓ hD => by
  rw [Sem.wp_onRaise]
  exact Sem.wp_mono M Γ m (fun _ _ _ h' => h') (fun e p' s' h' => h'.elim) p s (h Γ p hΓ hD)
theorem wpN_of_eq {t t' : Sem α} {Q : α → Shared → Prop} (e : t = t') (h : wpN M A t' Q E s) : wpN M A t Q E s := e ▸ h
theorem wpN_ite_false {c : Bool} {a b : Sem α} {Q : α → Shared → Prop} (hc : c = false) (h : wpN M A b Q E s) : wpN M A (if c = true then a else b) Q E s := by subst hc; exact h
theorem wpN_ite_true {c : Bool} {a b : Sem α} {Q : α → Shared → Prop} (hc : c = true) (h : wpN M A a Q E s) : wpN M A (if c = true then a else b) Q E s := by subst hc; exact h

theorem codeN_any {c : Code} {R : Result → Shared → Prop} (h : codeAny M A c R s) : codeN M A c R s := fun Γ p hc hΓ _ => h Γ p hc hΓ
theorem codeN_mono {c : Code} {R R' : Result → Shared → Prop} (h : codeN M A c R s) (k : ∀ r s, R r s → R' r s) : codeN M A c R' s := fun Γ p hc hΓ hD => wpCode_mono k (h Γ p hc hΓ hD)
theorem wpN_run {c : Code} {Q : Flow → Shared → Prop} (hc : codeN M A c (fun r s' => match r with | .ok f => Q f s' | .error e => E e s') s) (hn : NoDec c = true) : wpN M A (run c none) Q E s :=
  fun Γ p hΓ hD => by
    rw [Sem.wp_run]
    have := hΓ.enter c none p (by intro x; cases x)
    have e : A.mark none = A := rfl
    rw [e] at this
    exact hc _ p rfl this (hD.enter hn _ _)
theorem wpN_runValue {c : Code} {Q : Value → Shared → Prop} (hc : codeN M A c (fun r s' => match r with | .ok (.ret v) => Q v s' | .ok _ => False | .error e => E e s') s) (hn : NoDec c = true) : wpN M A (runValue c) Q E s :=
  fun Γ p hΓ hD => by
    rw [Sem.wp_runValue]
    have := hΓ.enter c none p (by intro x; cases x)
    have e : A.mark none = A := rfl
    rw [e] at this
    exact hc _ p rfl this (hD.enter hn _ _)
theorem wpN_call {f : Value} {pos : List Value} {kw : List (Str × Value)} {Q : Value → Shared → Prop}
    (hc : codeN M A (.call f ⟨pos, kw⟩) (fun r s' => match r with | .ok (.ret v) => Q v s' | .ok _ => False | .error e => E e s') s) : wpN M A (call f pos kw) Q E s := wpN_runValue hc rfl
theorem codeN_of_tree {c : Code} {R : Result → Shared → Prop}
    (h : wpN M (A.under c) (M.den c) (fun fin s' => match fin with | .done f => R (.ok f) s' | .again c' => c'.quiet = true ∧ NoDec c' = true ∧ codeN M A c' R s') (fun e s' => R (.error e) s') s) : codeN M A c R s := fun Γ p hc hΓ hD => by
  rw [wpCode_iff_wp, hc]
  refine Sem.wp_mono M Γ _ (fun fin p' s' h' => ?_) (fun _ _ _ h' => h') p s (h Γ p (hc ▸ hΓ.in) hD)
  cases fin with
  | done f => exact h'
  | again c' => exact ⟨h'.1, h'.2.2 (Γ.goto c') p' rfl (hΓ.goto c') (hD.goto h'.2.1)⟩
/-- a code that goes on as itself -/
theorem codeN_loop {c : Code} {R : Result → Shared → Prop} (hq : c.quiet = true) (hn : NoDec c = true) (I : Nat → Shared → Prop)
    (turn : ∀ n s, I n s → wpN M (A.under c) (M.den c) (fun fin s' => match fin with
        | .done f => R (.ok f) s'
        | .again c' => (c' = c ∧ ∃ m, m < n ∧ I m s') ∨ (c'.quiet = true ∧ NoDec c' = true ∧ codeN M A c' R s')) (fun e s' => R (.error e) s') s)
    (n : Nat) (h : I n s) : codeN M A c R s := by
  induction n using Nat.strongRecOn generalizing s with
  | ind n ih =>
    refine codeN_of_tree (wpN_mono (turn n s h) (fun fin s' hf => ?_) fun _ _ h' => h')
    cases fin with
    | done f => exact hf
    | again c' =>
      rcases hf with ⟨rfl, m, hm, hI⟩ | hf
      · exact ⟨hq, hn, ih m hm hI⟩
      · exact hf

/-- no decoder holds it -/
theorem wpN_exported {self : Value} {Q : Bool → Shared → Prop} (hg : A.guards = some []) (h : Q false s) : wpN M A (Builtin.Bytes.exported self) Q E s := fun Γ p hΓ hD => by
  have ng : ∀ x ∈ (Γ.code, p) :: Γ.below, x.1.isGuard = false := fun x hx => by
    have e : guardsOf ((Γ.code, p) :: Γ.below) = [] := by rw [guardsOf_cons]; exact hΓ.2.2.2.1 [] hg
    cases hc : x.1.isGuard with
    | false => rfl
    | true =>
      have : x.1 ∈ guardsOf ((Γ.code, p) :: Γ.below) := List.mem_filter.mpr ⟨List.mem_map_of_mem (f := (·.1)) hx, hc⟩
      rw [e] at this; cases this
  have nd : ∀ x ∈ (Γ.code, p) :: Γ.below, NoDec x.1 = true := fun x hx => by
    rcases List.mem_cons.mp hx with rfl | hx
    · exact hD.all _ (.head _)
    · exact hD.all _ (List.mem_cons_of_mem _ (List.mem_map_of_mem (f := (·.1)) hx))
  unfold Builtin.Bytes.exported
  rw [Sem.wp_bind']
  unfold stack
  rw [Sem.wp_stack, Sem.wp_pure]
  have e : ∀ b : Bool, b = false → Q b s := fun b hb => hb ▸ h
  refine e _ ?_
  rw [List.any_eq_false]
  rintro ⟨c, p'⟩ hx
  have h1 := ng _ hx
  have h2 := nd _ hx
  cases c with
  | builtin id args =>
    have h1 : guardIds.contains id = false := h1
    have h2 : (!Builtin.Bytes.decodersThatHold.contains id) = true := h2
    rw [Bool.not_eq_true'] at h2
    split
    case h_7 => exact Bool.false_ne_true
    case h_6 => rename_i q; injection q with q1 q2; injection q1 with q3 q4; subst q3; rw [h2, Bool.and_false]; exact Bool.false_ne_true
    all_goals (rename_i q; injection q with q1 q2; injection q1 with q3 q4; subst q3; exact absurd h1 (by decide))
  | _ => exact Bool.false_ne_true
end
-- part Ba2
noncomputable abbrev baO (bs : List UInt8) : Obj := { cls := .type "bytearray", data := .bytearray bs.toArray }
section
variable {M : Model} {A : Around} {E : Value → Shared → Prop} {s : Shared}
theorem ba_typeIs {a : Addr} {bs : List UInt8} (ha : s.heap.get? a = some (baO bs)) : s.TypeIs (.ref a) "bytearray" := ⟨_, ha, rfl⟩
theorem ba_write {a : Addr} {bs cs : List UInt8} {f : Array UInt8 → Array UInt8} {Q : Unit → Shared → Prop} (ha : s.heap.get? a = some (baO bs)) (hf : f bs.toArray = cs.toArray) (hz : cs.length ≤ 1000000)
    (h : ∀ h', Heap.SameBut a s.heap h' → h'.get? a = some (baO cs) → Q () { s with heap := h' }) : wpAny M A (Builtin.Bytes.write (.ref a) f) Q E s := by
  show wpAny M A (updateBytearray a f) Q E s
  unfold updateBytearray
  refine wpAny_bind (wpAny_load ha ?_)
  show wpAny _ _ (update a (Obj.mapBytearray f) >>= fun _ => lookBehind a) _ _ _
  refine wpAny_bind (wpAny_update ha ?_)
  have h2 : (s.heap.update a (Obj.mapBytearray f)).get? a = some (baO cs) := by
    have := Heap.get?_update_self (Obj.mapBytearray f) ha rfl
    rw [this]
    show some ({ cls := .type "bytearray", data := .bytearray (f bs.toArray) } : Obj) = _
    rw [hf]
  refine wpAny_lookBehind h2 ?_ (h _ (Heap.SameBut.update ..) h2)
  show (if cs.toArray.size > sizeLine then some "bytearray:memory" else none) = none
  rw [if_neg]
  rw [List.size_toArray, sizeLine_eq]; omega
theorem ba_payload {a : Addr} {bs : List UInt8} {Q : Array UInt8 → Shared → Prop} (ha : s.heap.get? a = some (baO bs)) (h : Q bs.toArray s) : wpAny M A (Builtin.Bytes.payload (.ref a)) Q E s := by
  unfold Builtin.Bytes.payload Builtin.Bytes.payload?
  exact wpAny_bind (wpAny_bind (wpAny_load ha (wpAny_pure (wpAny_pure h))))
theorem b_payload {b : Array UInt8} {t : Tok} {Q : Array UInt8 → Shared → Prop} (h : Q b s) : wpAny M A (Builtin.Bytes.payload (.bytes b t)) Q E s := by
  unfold Builtin.Bytes.payload Builtin.Bytes.payload?
  exact wpAny_bind (wpAny_pure (wpAny_pure h))
theorem ba_own {a : Addr} {bs : List UInt8} {Q : Bool → Shared → Prop} (ha : s.heap.get? a = some (baO bs)) (h : Q false s) : wpAny M A (Builtin.Bytes.ownRelease (.ref a)) Q E s := by
  unfold Builtin.Bytes.ownRelease Builtin.Bytes.slotIsOwn
  refine wpAny_bind (wpAny_bind (wpAny_specialOf (ba_typeIs ha) ba_release ?_))
  show wpAny _ _ (if (!("bytearray.__release_buffer__" : String).endsWith ("." ++ "__release_buffer__")) = true then _ else _) _ _ _
  rw [if_neg (by decide +kernel)]
  show wpAny _ _ (isInstance (.ref a) (.type (("bytearray.__release_buffer__" : String).dropRight (("__release_buffer__" : String).length + 1)))) _ _ _
  rw [show (("bytearray.__release_buffer__" : String).dropRight (("__release_buffer__" : String).length + 1)) = "bytearray" by decide +kernel]
  exact wpAny_isInstance (ba_typeIs ha) ba_sub (wpAny_pure h)
theorem b_own {b : Array UInt8} {t : Tok} {Q : Bool → Shared → Prop} (h : Q false s) : wpAny M A (Builtin.Bytes.ownRelease (.bytes b t)) Q E s := by
  unfold Builtin.Bytes.ownRelease Builtin.Bytes.slotIsOwn
  exact wpAny_bind (wpAny_bind (wpAny_specialOf (PySem.W.typeIs_bytes _ _ _) b_release (wpAny_pure (wpAny_pure h))))
theorem b_sub_b : isSubtype (.type "bytes") (.type "bytes") = pure true := by rw [isSubtype_type]; kernel_rfl
theorem b_slotIsOwn {b : Array UInt8} {t : Tok} {Q : Bool → Shared → Prop} (h : Q true s) : wpAny M A (Builtin.Bytes.slotIsOwn (.bytes b t) "__buffer__") Q E s := by
  unfold Builtin.Bytes.slotIsOwn
  refine wpAny_bind (wpAny_specialOf (PySem.W.typeIs_bytes _ _ _) b_buffer ?_)
  show wpAny _ _ (if (!("bytes.__buffer__" : String).endsWith ("." ++ "__buffer__")) = true then _ else _) _ _ _
  rw [if_neg (by decide +kernel)]
  show wpAny _ _ (isInstance (.bytes b t) (.type (("bytes.__buffer__" : String).dropRight (("__buffer__" : String).length + 1)))) _ _ _
  rw [show (("bytes.__buffer__" : String).dropRight (("__buffer__" : String).length + 1)) = "bytes" by decide +kernel]
  exact wpAny_isInstance (PySem.W.typeIs_bytes _ _ _) b_sub_b h
theorem ba_slotIsOwn {a : Addr} {bs : List UInt8} {Q : Bool → Shared → Prop} (ha : s.heap.get? a = some (baO bs)) (h : Q true s) : wpAny M A (Builtin.Bytes.slotIsOwn (.ref a) "__buffer__") Q E s := by
  unfold Builtin.Bytes.slotIsOwn
  refine wpAny_bind (wpAny_specialOf (ba_typeIs ha) ba_buffer ?_)
  show wpAny _ _ (if (!("bytearray.__buffer__" : String).endsWith ("." ++ "__buffer__")) = true then _ else _) _ _ _
  rw [if_neg (by decide +kernel)]
  show wpAny _ _ (isInstance (.ref a) (.type (("bytearray.__buffer__" : String).dropRight (("__buffer__" : String).length + 1)))) _ _ _
  rw [show (("bytearray.__buffer__" : String).dropRight (("__buffer__" : String).length + 1)) = "bytearray" by decide +kernel]
  exact wpAny_isInstance (ba_typeIs ha) ba_sub h
theorem b_buf {b : Array UInt8} {t : Tok} {id : String} {full : Bool} {Q : Option (Array UInt8) → Shared → Prop} (h : Q (some b) s) : wpAny M A (Builtin.Bytes.buffer? id (.bytes b t) full) Q E s := by
  unfold Builtin.Bytes.buffer?
  refine wpAny_bind (wpAny_specialOf (PySem.W.typeIs_bytes _ _ _) b_buffer ?_)
  refine wpAny_bind (b_slotIsOwn ?_)
  rw [if_neg (by decide)]
  refine wpAny_bind (wpAny_specialOf (PySem.W.typeIs_bytes _ _ _) b_buffer ?_)
  refine wpAny_bind (b_own ?_)
  rw [if_neg (by decide)]
  exact wpAny_bind (b_payload (wpAny_pure h))
theorem ba_buf {a : Addr} {bs : List UInt8} {id : String} {full : Bool} {Q : Option (Array UInt8) → Shared → Prop} (ha : s.heap.get? a = some (baO bs)) (h : Q (some bs.toArray) s) : wpAny M A (Builtin.Bytes.buffer? id (.ref a) full) Q E s := by
  unfold Builtin.Bytes.buffer?
  refine wpAny_bind (wpAny_specialOf (ba_typeIs ha) ba_buffer ?_)
  refine wpAny_bind (ba_slotIsOwn ha ?_)
  rw [if_neg (by decide)]
  refine wpAny_bind (wpAny_specialOf (ba_typeIs ha) ba_buffer ?_)
  refine wpAny_bind (ba_own ha ?_)
  rw [if_neg (by decide)]
  exact wpAny_bind (ba_payload ha (wpAny_pure h))
end
-- part Ba3
theorem asStr_int (n : Int) (t : Tok) : asStr? (.int n t) = pure none := by kernel_rfl
theorem asStr_bytes (b : Array UInt8) (t : Tok) : asStr? (.bytes b t) = pure none := by kernel_rfl
theorem special_int_index (n : Int) (t : Tok) : specialOf (.int n t) "__index__" = pure (some (.builtin "int.__index__")) := by
  show (pure (Value.type "int") >>= fun c => typeLookup c _) = _
  rw [pure_bind]; exact int_index
theorem special_bytes_index (b : Array UInt8) (t : Tok) : specialOf (.bytes b t) "__index__" = pure none := by
  show (pure (Value.type "bytes") >>= fun c => typeLookup c _) = _
  rw [pure_bind]; exact b_no_index
theorem attempt_index (n : Int) (t : Tok) : (asIndex (.int n t)).attempt = pure (.ok n) := rfl
section
variable {prog : Program} {w : World} {A : Around} {E : Value → Shared → Prop} {s : Shared}
theorem init_int {a : Addr} {n : Nat} {t : Tok} {bs : List UInt8} (ha : s.heap.get? a = some (baO bs)) (hn : n ≤ 1000) (hg : A.guards = some []) :
    wpN (model prog w) A (Builtin.«bytearray.__init__» ⟨[.ref a, .int n t], []⟩) (fun fin s' => fin = .done (.ret .none) ∧ ∃ h', s' = { s with heap := h' } ∧ Heap.SameBut a s.heap h' ∧ h'.get? a = some (baO (List.replicate n 0))) E s := by
  unfold Builtin.«bytearray.__init__»
  refine wpN_then (ba_own ha ?_)
  refine wpN_ite_false rfl ?_
  refine wpN_then (wpAny_of_eq (ba_bind _) ?_)
  refine wpN_then (wpAny_of_eq (a := ()) rfl ?_)
  refine wpN_then (wpAny_of_eq (a := ()) rfl ?_)
  refine wpN_bind ?_
  unfold orM
  refine wpN_bind (wpN_exported hg ?_)
  dsimp only [toBool]
  refine wpN_any (wpAny_bind ?_)
  unfold Builtin.Bytes.exportsOf
  refine wpAny_bind (wpAny_load ha ?_)
  refine wpAny_pure (wpAny_pure ?_)
  refine wpN_ite_false rfl ?_
  refine wpN_then (ba_write (cs := []) ha rfl (Nat.zero_le _) fun h1 sb1 g1 => ?_)
  refine wpN_any ?_
  have f1 : Builtin.Bytes.fitsIndex (n : Int) = true := by
    unfold Builtin.Bytes.fitsIndex
    rw [Bool.and_eq_true]
    exact ⟨decide_eq_true (by omega), decide_eq_true (by omega)⟩
  have f2 : ¬ ((n : Int) < 0) := by omega
  have f3 : ((n : Int) == 2 ^ 63 - 1) = false := by rw [beq_eq_false_iff_ne]; omega
  have f4 : Builtin.Bytes.tooLong (n : Int).toNat = false := by
    rw [Int.toNat_natCast]; unfold Builtin.Bytes.tooLong; rw [decide_eq_false_iff_not, sizeLine_eq]; omega
  simp only [asStr_int, Option.isSome_none, Option.isSome_some, Bool.false_eq_true, if_false, if_true, pure_bind, f1, f2, f3, f4, Bool.not_true, special_int_index, attempt_index]
  refine wpAny_bind (wpAny_rule ?_)
  by_cases h0 : (n : Int) > 0
  · rw [if_pos h0]
    refine wpAny_bind (ba_write (cs := List.replicate n 0) g1 (by simp) (by rw [List.length_replicate]; omega) fun h2 sb2 g2 => ?_)
    exact wpAny_pure ⟨rfl, h2, rfl, ⟨sb2.1.trans sb1.1, fun b hb => (sb2.2 b hb).trans (sb1.2 b hb)⟩, g2⟩
  · rw [if_neg h0]
    obtain rfl : n = 0 := by omega
    exact wpAny_pure ⟨rfl, h1, rfl, sb1, g1⟩
theorem init_bytes {a : Addr} {cs : List UInt8} {t : Tok} {bs : List UInt8} (ha : s.heap.get? a = some (baO bs)) (hn : cs.length ≤ 1000) (hg : A.guards = some []) :
    wpN (model prog w) A (Builtin.«bytearray.__init__» ⟨[.ref a, .bytes cs.toArray t], []⟩) (fun fin s' => fin = .done (.ret .none) ∧ ∃ h', s' = { s with heap := h' } ∧ Heap.SameBut a s.heap h' ∧ h'.get? a = some (baO cs)) E s := by
  unfold Builtin.«bytearray.__init__»
  refine wpN_then (ba_own ha ?_)
  refine wpN_ite_false rfl ?_
  refine wpN_then (wpAny_of_eq (ba_bind _) ?_)
  refine wpN_then (wpAny_of_eq (a := ()) rfl ?_)
  refine wpN_then (wpAny_of_eq (a := ()) rfl ?_)
  refine wpN_bind ?_
  unfold orM
  refine wpN_bind (wpN_exported hg ?_)
  dsimp only [toBool]
  refine wpN_any (wpAny_bind ?_)
  unfold Builtin.Bytes.exportsOf
  refine wpAny_bind (wpAny_load ha ?_)
  refine wpAny_pure (wpAny_pure ?_)
  refine wpN_ite_false rfl ?_
  refine wpN_then (ba_write (cs := []) ha rfl (Nat.zero_le _) fun h1 sb1 g1 => ?_)
  refine wpN_any ?_
  simp only [asStr_bytes, Option.isSome_none, Option.isSome_some, Bool.false_eq_true, if_false, if_true, pure_bind, Bool.not_true, special_bytes_index]
  refine wpAny_bind (b_buf ?_)
  refine wpAny_bind (wpAny_rule ?_)
  refine wpAny_bind (ba_write (cs := cs) g1 rfl (by omega) fun h2 sb2 g2 => ?_)
  exact wpAny_pure ⟨rfl, h2, rfl, ⟨sb2.1.trans sb1.1, fun b hb => (sb2.2 b hb).trans (sb1.2 b hb)⟩, g2⟩
end
-- part Ba4
section
variable {prog : Program} {w : World} {A : Around} {E : Value → Shared → Prop} {s : Shared}
theorem ba_noNew : ((Manifest.find? "bytearray").bind (·.mro.findSome? fun t => (Manifest.find? t).bind fun b => if b.noNew then some true else if b.attrs.any (·.1 == "__new__") then some false else none)).getD false = false := by decide +kernel
theorem codeN_builtin {id : String} {args : Args} {b : Builtin} {R : Result → Shared → Prop} (he : entryFor table id = some b) (hn : NoDec (.builtin id args) = true)
    (h : wpN (model prog w) (A.under (.builtin id args)) (b args) (fun fin s' => match fin with | .done f => R (.ok f) s' | .again c' => c'.quiet = true ∧ NoDec c' = true ∧ codeN (model prog w) A c' R s') (fun e s' => R (.error e) s') s) :
    codeN (model prog w) A (.builtin id args) R s := by
  refine codeN_of_tree ?_
  have e : (model prog w).den (.builtin id args) = b args := by
    show (match entryFor table id with | some b => b args | none => unsupported _) = _
    rw [he]
  rw [e]; exact h
theorem owner_ba_new : ("bytearray.__new__".splitOn ".__new__").headD "" = "bytearray" := by simp +decide [String.splitOn, String.splitOnAux]
theorem code_ba_new (a : Value) {Q₁ : Value → Shared → Prop} (h : Q₁ (.ref s.heap.objs.size) { s with heap := s.heap.push (baO []) }) :
    codeAny (model prog w) A (.call (.builtin "bytearray.__new__") ⟨[.type "bytearray", a], []⟩) (wants Q₁ E) s := by
  refine codeAny_of_tree ?_
  show wpAny _ A.in1 (do checkBuiltinCall "bytearray.__new__" ⟨[.type "bytearray", a], []⟩; again (.builtin "bytearray.__new__" ⟨[.type "bytearray", a], []⟩)) _ _ s
  refine wpAny_bind (wpAny_of_eq (ba_newCall a) (wpAny_pure ⟨plainId_quiet ba_plain_new _, codeAny_builtin_stack ba_entry_new rfl fun p st => ?_⟩))
  rw [Around.under_plainId ba_plain_new _]
  have hsub := ba_sub
  have hown := owner_ba_new
  obtain ⟨hp, g, d, tk, os⟩ := s
  simp only [hown]
  wp_walk
  exact h
theorem nd_id {id : String} (h : Builtin.Bytes.decodersThatHold.contains id = false) (args : Args) : NoDec (.builtin id args) = true := by
  show (!Builtin.Bytes.decodersThatHold.contains id) = true
  rw [h]; rfl
theorem nd_type (args : Args) : NoDec (.builtin "type.__call__" args) = true := nd_id (by decide +kernel) args
theorem nd_init (args : Args) : NoDec (.builtin "bytearray.__init__" args) = true := nd_id (by decide +kernel) args
theorem args_ba_init (a b : Value) : argsOk "bytearray.__init__" ⟨[a, b], []⟩ := by unfold argsOk; kernel_rfl
theorem wpN_slot {T : String} {name : Str} {id : String} {B : Builtin} {self : Value} {rest : List Value} {Q : Value → Shared → Prop} (slot : Slot T name id) (hT : s.TypeIs self T) (entry : entryFor table id = some B) (args : argsOk id ⟨self :: rest, []⟩)
    (hn : NoDec (.builtin id ⟨self :: rest, []⟩) = true) (h : wpN (model prog w) A.in1 (B ⟨self :: rest, []⟩) (fun fin s' => ∃ v, fin = .done (.ret v) ∧ Q v s') E s) : wpN (model prog w) A (call (.builtin id) (self :: rest)) Q E s := by
  refine wpN_call (codeN_of_tree ?_)
  show wpN _ _ (do checkBuiltinCall id ⟨self :: rest, []⟩; again (.builtin id ⟨self :: rest, []⟩)) _ _ s
  refine wpN_then (slot.check _ _ _ _ _ _ _ _ hT args ?_)
  refine wpN_pure ⟨plainId_quiet slot.plain _, hn, codeN_builtin entry hn ?_⟩
  rw [Around.under_plainId slot.plain _]
  refine wpN_mono h (fun fin s' ⟨v, e, q⟩ => ?_) fun _ _ x => x
  subst e
  exact q
/-- bytearray(v) -/
theorem wpN_bytearray {v : Value} {cs : List UInt8} {Q : Value → Shared → Prop}
    (hi : ∀ (A : Around) (s : Shared) (a : Addr), A.guards = some [] → s.heap.get? a = some (baO []) → wpN (model prog w) A (Builtin.«bytearray.__init__» ⟨[.ref a, v], []⟩) (fun fin s' => fin = .done (.ret .none) ∧ ∃ h', s' = { s with heap := h' } ∧ Heap.SameBut a s.heap h' ∧ h'.get? a = some (baO cs)) E s)
    (hg : A.guards = some []) (h : ∀ h', (∀ b o, s.heap.get? b = some o → h'.get? b = some o) → h'.objs.size = s.heap.objs.size + 1 → h'.get? s.heap.objs.size = some (baO cs) → Q (.ref s.heap.objs.size) { s with heap := h' }) :
    wpN (model prog w) A (call (.type "bytearray") [v]) Q E s := by
  refine wpN_call (codeN_of_tree (wpN_pure ⟨Code.quiet_builtin _ (by decide +kernel), nd_type _, codeN_builtin F.entry_type_call (nd_type _) ?_⟩))
  rw [Around.under_plain (weight_type_call_type "bytearray" [v] []) (units_type_call_type "bytearray" [v] [])]
  unfold Builtin.«type.__call__»
  simp only [ba_called.notType, ba_noNew, ba_typeCall, ba_mro, ba_called.made, pure_bind, Bool.false_eq_true, if_false, List.isEmpty_cons]
  refine wpN_then (wpAny_holding (wpAny_call (code_ba_new v ?_)))
  have g0 : (s.heap.push (baO [])).get? s.heap.objs.size = some (baO []) := Heap.get?_push_size _ rfl
  have hT : ({ s with heap := s.heap.push (baO []) } : Shared).TypeIs (.ref s.heap.objs.size) "bytearray" := ⟨_, g0, rfl⟩
  refine wpN_then (wpAny_isInstance hT ba_sub ?_)
  rw [if_neg (by decide)]
  refine wpN_bind (wpN_holding ?_)
  unfold callSpecial?
  refine wpN_then (wpAny_specialOf hT ba_slot_init.lookup ?_)
  dsimp only
  refine wpN_holding ?_
  rw [ba_slot_init.bind]
  refine wpN_then (wpAny_pure ?_)
  refine wpN_bind (wpN_slot ba_slot_init hT ba_entry_init (args_ba_init _ _) (nd_init _) (wpN_mono (hi _ _ _ hg g0) (fun fin s' ⟨e, h', e2, sb, g⟩ => ?_) fun _ _ x => x))
  subst e e2
  refine ⟨_, rfl, wpN_pure ?_⟩
  dsimp only
  rw [if_neg (by decide)]
  refine wpN_pure (h h' (fun b o e => ?_) ?_ g)
  · rw [sb.2 b (Nat.ne_of_lt (Heap.lt_size e))]
    exact Heap.get?_push_of_some _ e
  · rw [sb.1, Heap.size_push]
end
-- part Ba5
section
variable {prog : Program} {w : World} {A : Around} {E : Value → Shared → Prop} {s : Shared}
noncomputable abbrev sliceN : Obj := { cls := .type "slice", data := .fields #[.none, .none, .none] }
theorem sl_typeIs {sl : Addr} (hs : s.heap.get? sl = some sliceN) : s.TypeIs (.ref sl) "slice" := ⟨_, hs, rfl⟩
theorem parts_none {M : Model} {sl : Addr} {Q : Value × Value × Value → Shared → Prop} (hs : s.heap.get? sl = some sliceN) (h : Q (.none, .none, .none) s) : wpAny M A (Builtin.Bytes.sliceParts (.ref sl)) Q E s := by
  unfold Builtin.Bytes.sliceParts
  refine wpAny_bind (wpAny_field (x := .none) hs rfl rfl ?_)
  refine wpAny_bind (wpAny_pure ?_)
  rw [if_neg (by decide)]
  refine wpAny_bind (wpAny_field (x := .none) hs rfl rfl ?_)
  refine wpAny_bind (wpAny_pure ?_)
  refine wpAny_bind (wpAny_field (x := .none) hs rfl rfl ?_)
  refine wpAny_bind (wpAny_pure ?_)
  exact wpAny_pure h
theorem special_bytes_int (b : Array UInt8) (t : Tok) : specialOf (.bytes b t) "__int__" = pure none := by
  show (pure (Value.type "bytes") >>= fun c => typeLookup c _) = _
  rw [pure_bind]; exact b_no_int
theorem special_bytes_float (b : Array UInt8) (t : Tok) : specialOf (.bytes b t) "__float__" = pure none := by
  show (pure (Value.type "bytes") >>= fun c => typeLookup c _) = _
  rw [pure_bind]; exact b_no_float
theorem bounds_none (n : Nat) : sliceBounds none none none n = (0, (n : Int), 1) := rfl
/-- buf[:] = bytes of the same length -/
theorem ba_setslice {b sl : Addr} {bs cs : List UInt8} {t : Tok} (hb : s.heap.get? b = some (baO bs)) (hs : s.heap.get? sl = some sliceN) (hl : cs.length = bs.length) (hz : cs.length ≤ 1000) (hg : A.guards = some []) :
    wpN (model prog w) A (Builtin.«bytearray.__setitem__» ⟨[.ref b, .ref sl, .bytes cs.toArray t], []⟩) (fun fin s' => ∃ v, fin = .done (.ret v) ∧ ∃ h', s' = { s with heap := h' } ∧ (∀ a o, a ≠ b → s.heap.get? a = some o → h'.get? a = some o) ∧ h'.get? b = some (baO cs)) E s := by
  unfold Builtin.«bytearray.__setitem__»
  refine wpN_ite_false rfl ?_
  unfold Builtin.Bytes.subscript?
  refine wpN_then (wpAny_bind (wpAny_specialOf (sl_typeIs hs) slice_no_index (wpAny_pure ?_)))
  refine wpN_then (wpAny_typeOf (sl_typeIs hs) ?_)
  refine wpN_ite_false (by decide) ?_
  refine wpN_then (parts_none hs ?_)
  refine wpN_then (wpAny_pure ?_)
  refine wpN_then (wpAny_isInstance (PySem.W.typeIs_bytes _ _ _) b_sub_ba ?_)
  rw [asStr_bytes]
  refine wpN_then (wpAny_pure ?_)
  rw [if_neg (by decide)]
  refine wpN_then (wpAny_rule ?_)
  refine wpN_bind (wpN_bytearray (cs := cs) (fun A s a hg ha => init_bytes ha (by omega) hg) hg fun h1 k1 z1 g1 => ?_)
  have hb1 := k1 _ _ hb
  have hs1 := k1 _ _ hs
  refine wpN_then (wpAny_holding (parts_none hs1 ?_))
  refine wpN_then (ba_payload g1 ?_)
  refine wpN_then (ba_payload hb1 ?_)
  refine wpN_then (wpAny_of_eq (sliceIndices_raw none none none _ (fun e => nomatch e)) ?_)
  rw [bounds_none]
  dsimp only
  rw [if_pos (by decide)]
  refine wpN_then (wpAny_rule ?_)
  rw [if_neg (by rw [bne_iff_ne, List.size_toArray, List.size_toArray, hl]; simp)]
  have hne : b ≠ s.heap.objs.size := Nat.ne_of_lt (Heap.lt_size hb)
  refine wpN_then (ba_write (cs := cs) hb1 (by simp [← hl]) (by omega) fun h2 sb2 g2 => ?_)
  refine wpN_pure ⟨_, rfl, h2, rfl, fun a o hab e => ?_, g2⟩
  rw [sb2.2 a hab]
  exact k1 _ _ e
theorem line_le0 {n : Nat} (h : n ≤ 16777216) : n ≤ sizeLine := by rw [sizeLine_eq]; exact h
theorem args_ba_set (a b c : Value) : argsOk "bytearray.__setitem__" ⟨[a, b, c], []⟩ := by unfold argsOk; kernel_rfl
theorem args_ba_len (a : Value) : argsOk "bytearray.__len__" ⟨[a], []⟩ := by unfold argsOk; kernel_rfl
theorem ba_seqKey {M : Model} {o k : Value} {Q : Value → Shared → Prop} (hT : s.TypeIs o "bytearray") (h : Q k s) : wpAny M A (sequenceKey o k "__setitem__") Q E s := by
  unfold sequenceKey
  refine wpAny_bind (wpAny_typeOf hT ?_)
  dsimp only
  rw [if_pos (by decide)]
  exact wpAny_pure h
theorem wpN_setslice {b sl : Addr} {bs cs : List UInt8} {t : Tok} {Q : Unit → Shared → Prop} (hb : s.heap.get? b = some (baO bs)) (hs : s.heap.get? sl = some sliceN) (hl : cs.length = bs.length) (hz : cs.length ≤ 1000) (hg : A.guards = some [])
    (h : ∀ h', (∀ a o, a ≠ b → s.heap.get? a = some o → h'.get? a = some o) → h'.get? b = some (baO cs) → Q () { s with heap := h' }) : wpN (model prog w) A (setItem (.ref b) (.ref sl) (.bytes cs.toArray t)) Q E s := by
  unfold setItem
  refine wpN_holding ?_
  refine wpN_then (ba_seqKey (ba_typeIs hb) ?_)
  refine wpN_bind ?_
  unfold callSpecial?
  refine wpN_then (wpAny_specialOf (ba_typeIs hb) ba_slot_set.lookup ?_)
  dsimp only
  refine wpN_holding ?_
  rw [ba_slot_set.bind]
  refine wpN_then (wpAny_pure ?_)
  refine wpN_bind (wpN_slot ba_slot_set (ba_typeIs hb) ba_entry_set (args_ba_set _ _ _) (nd_id (by decide +kernel) _) (wpN_mono (ba_setslice hb hs hl hz hg) (fun fin s' ⟨v, e, h', e2, k, g⟩ => ?_) fun _ _ x => x))
  subst e e2
  exact ⟨v, rfl, wpN_pure (wpN_pure (h h' k g))⟩
theorem len_ba {b : Addr} {bs : List UInt8} {Q : Value → Shared → Prop} (hb : s.heap.get? b = some (baO bs)) (hz : bs.length ≤ 1000000)
    (h : ∀ t k, Q (.int bs.length t) { s with toks := k }) : wpAny (model prog w) A (call (.builtin "len") [.ref b]) Q E s := by
  refine call_len_slot (ba_typeIs hb) ba_slot_len (fun Q' q => wpAny_call_entry ba_slot_len (ba_typeIs hb) ba_entry_len ?_ (args_ba_len _)) (by omega) (by omega) (h _ _)
  unfold Builtin.«bytearray.__len__»
  refine wpAny_bind (wpAny_of_eq (a := (.ref b, [])) rfl ?_)
  refine wpAny_bind (ba_payload hb ?_)
  rw [List.size_toArray]
  exact wpAny_bind (wpAny_mkInt (wpAny_pure ⟨_, rfl, q⟩))
theorem sub_bytes_self : isSubtype (.type "bytes") (.type "bytes") = pure true := by rw [isSubtype_type]; kernel_rfl
/-- bytes(b) of bytes -/
theorem bytes_of_bytes {b : Array UInt8} {t : Tok} {Q : Value → Shared → Prop} (h : Q (.bytes b t) s) : wpAny (model prog w) A (call (.type "bytes") [.bytes b t]) Q E s := by
  refine callType_codes (Q₁ := fun obj s₁ => s₁.TypeIs obj "bytes" ∧ Q obj s₁) F.bm_called (F.bm_typeCall _) F.entry_object_init ?_ fun obj s₁ h₁ => ⟨h₁.1, F.args_object_init_2 obj _, object_init_meets F.bm_called.init.lookup F.bm_called.made (by decide) prog w A.in1 _ s₁ ⟨h₁.1, rfl, h₁.2⟩⟩
  refine codeAny_of_tree ?_
  show wpAny _ A.in1.in1 (do checkBuiltinCall "bytes.__new__" ⟨[.type "bytes", .bytes b t], []⟩; again (.builtin "bytes.__new__" ⟨[.type "bytes", .bytes b t], []⟩)) _ _ s
  refine wpAny_bind (wpAny_of_eq (F.bm_newCall _) (wpAny_pure ⟨plainId_quiet F.bm_plain _, codeAny_builtin F.bm_entry ?_⟩))
  rw [Around.under_plainId F.bm_plain _]
  unfold Builtin.«bytes.__new__»
  refine wpAny_bind (wpAny_of_eq (a := true) rfl ?_)
  refine bm_if_false rfl ?_
  refine wpAny_bind (wpAny_of_eq F.bm_sub ?_)
  refine bm_if_false rfl ?_
  refine wpAny_bind (wpAny_of_eq (F.bm_bind _) ?_)
  refine wpAny_bind (wpAny_of_eq (a := ()) rfl ?_)
  refine wpAny_bind (wpAny_of_eq (a := ()) rfl ?_)
  refine bm_if_false rfl ?_
  refine wpAny_bind (wpAny_specialOf (PySem.W.typeIs_bytes _ _ _) b_bytes ?_)
  refine wpAny_bind (wpAny_rule ?_)
  refine wpAny_bind (wpAny_typeOf (PySem.W.typeIs_bytes _ _ _) ?_)
  refine bm_if_true (by decide) ?_
  exact wpAny_pure ⟨PySem.W.typeIs_bytes _ _ _, h⟩
/-- bytes(b) of a bytearray -/
theorem bytes_of_ba {b : Addr} {bs : List UInt8} {Q : Value → Shared → Prop} (hb : s.heap.get? b = some (baO bs)) (hz : bs.length ≤ 1000000) (h : ∀ t k, Q (.bytes bs.toArray t) { s with toks := k }) : wpAny (model prog w) A (call (.type "bytes") [.ref b]) Q E s := by
  refine callType_codes (Q₁ := fun obj s₁ => s₁.TypeIs obj "bytes" ∧ Q obj s₁) F.bm_called (F.bm_typeCall _) F.entry_object_init ?_ fun obj s₁ h₁ => ⟨h₁.1, F.args_object_init_2 obj _, object_init_meets F.bm_called.init.lookup F.bm_called.made (by decide) prog w A.in1 _ s₁ ⟨h₁.1, rfl, h₁.2⟩⟩
  refine codeAny_of_tree ?_
  show wpAny _ A.in1.in1 (do checkBuiltinCall "bytes.__new__" ⟨[.type "bytes", .ref b], []⟩; again (.builtin "bytes.__new__" ⟨[.type "bytes", .ref b], []⟩)) _ _ s
  refine wpAny_bind (wpAny_of_eq (F.bm_newCall _) (wpAny_pure ⟨plainId_quiet F.bm_plain _, codeAny_builtin F.bm_entry ?_⟩))
  rw [Around.under_plainId F.bm_plain _]
  have hT : s.TypeIs (.ref b) "bytearray" := ba_typeIs hb
  unfold Builtin.«bytes.__new__»
  refine wpAny_bind (wpAny_of_eq (a := true) rfl ?_)
  refine bm_if_false rfl ?_
  refine wpAny_bind (wpAny_of_eq F.bm_sub ?_)
  refine bm_if_false rfl ?_
  refine wpAny_bind (wpAny_of_eq (F.bm_bind _) ?_)
  refine wpAny_bind (wpAny_of_eq (a := ()) rfl ?_)
  refine wpAny_bind (wpAny_of_eq (a := ()) rfl ?_)
  refine bm_if_false rfl ?_
  refine wpAny_bind (wpAny_specialOf hT ba_no_bytes ?_)
  refine wpAny_bind (wpAny_bind ?_)
  show wpAny _ _ (load b >>= _) _ _ _
  refine wpAny_bind (wpAny_load hb ?_)
  refine wpAny_pure (wpAny_pure ?_)
  refine bm_if_false rfl ?_
  refine wpAny_bind (wpAny_specialOf hT ba_no_index ?_)
  refine bm_if_true rfl ?_
  first
    | show wpAny _ _ (Builtin.Bytes.buffer? "bytes.__new__" (.ref b) true >>= _) _ _ _
    | (refine wpAny_bind ?_; show wpAny _ _ (Builtin.Bytes.buffer? "bytes.__new__" (.ref b) true >>= _) _ _ _)
  refine wpAny_bind (ba_buf hb ?_)
  refine wpAny_bind (wpAny_rule ?_)
  refine wpAny_bind (wpAny_mkBytes ?_ (line_le0 (by rw [List.size_toArray]; omega)))
  show wpAny _ _ (if (Value.type "bytes" == Value.type "bytes") = true then _ else _) _ _ _
  refine bm_if_true (by decide) ?_
  first
    | exact wpAny_pure ⟨PySem.W.typeIs_bytes _ _ _, h _ _⟩
    | exact wpAny_bind (wpAny_pure (wpAny_pure ⟨PySem.W.typeIs_bytes _ _ _, h _ _⟩))
end
-- part N1
/-- as W, at contexts without decoders -/
structure N {F : Fn} (C : Cx F) {α : Type} (t : Sem α) (V : Vals) (H : Led) (Q : α → Vals → Led → Prop) : Prop where
  run : ∀ s, Vw C V H s → wpN (model prog C.w) C.A t (fun a s' => ∃ V' H', Vw C V' H' s' ∧ Q a V' H') (fun _ _ => False) s
section
variable {F : Fn} {C : Cx F} {α β : Type} {V : Vals} {H : Led}
theorem w2n {t : Sem α} {Q : α → Vals → Led → Prop} (h : W C NoE t V H Q) : N C t V H Q := .mk fun s v => wpN_any (wpAny_mono (h.run s v) (fun _ _ x => x) fun _ _ ⟨_, _, _, x⟩ => x.elim)
theorem n_pure {a : α} {Q : α → Vals → Led → Prop} (h : Q a V H) : N C (pure a) V H Q := .mk fun _ v => wpN_pure ⟨V, H, v, h⟩
theorem N.mono {t : Sem α} {Q Q' : α → Vals → Led → Prop} (h : N C t V H Q) (k : ∀ a V' H', Q a V' H' → Q' a V' H') : N C t V H Q' :=
  .mk fun s v => wpN_mono (h.run s v) (fun _ _ ⟨V', H', v', q⟩ => ⟨V', H', v', k _ _ _ q⟩) fun _ _ x => x
theorem n_bind {m : Sem α} {f : α → Sem β} {Q : β → Vals → Led → Prop} (h : N C m V H (fun a V' H' => N C (f a) V' H' Q)) : N C (m >>= f) V H Q :=
  .mk fun s v => wpN_bind (wpN_mono (h.run s v) (fun _ s' ⟨_, _, v', q⟩ => q.run s' v') fun _ _ x => x)
theorem n_then {m : Sem α} {f : α → Sem β} {Q : β → Vals → Led → Prop} (h : W C NoE m V H (fun a V' H' => N C (f a) V' H' Q)) : N C (m >>= f) V H Q := n_bind (w2n h)
theorem n_holding {vs : List Value} {t : Sem α} {Q : α → Vals → Led → Prop} (h : N C t V H Q) : N C (holding vs t) V H Q := .mk fun s v => wpN_holding (h.run s v)
theorem n_operate {vs : List Value} {m : Sem Value} {Q : Value → Vals → Led → Prop} (h : N C m V H Q) : N C (operate vs m) V H Q := .mk fun s v => wpN_operate (h.run s v)
theorem n_keep {vs : List Value} {t : Sem α} {Q : α → Vals → Led → Prop} (h : N C t V H Q) : N C (t.keep vs) V H Q := .mk fun s v Γ p hΓ hD => by
  rw [Sem.wp_keep]; exact h.run s v Γ p hΓ hD
theorem n_drop' {t : Sem α} {Q : α → Vals → Led → Prop} {H' : Led} (hs : SubP H' H) (h : N C t V H' Q) : N C t V H Q := .mk fun s v => h.run s (v.subP hs)
theorem N.shrink {t : Sem α} {Q : α → Vals → Led → Prop} (h : N C t V H (fun a V' H' => ∃ H'', SubP H'' H' ∧ Q a V' H'')) : N C t V H Q :=
  .mk fun s v => wpN_mono (h.run s v) (fun _ _ ⟨V', H', v', H'', hs, q⟩ => ⟨V', H'', v'.subP hs, q⟩) fun _ _ x => x

/-! statements -/
noncomputable def SeqN (C : Cx F) (rest : List Stmt) (Q : Flow → Vals → Led → Prop) : Flow → Vals → Led → Prop
  | .next, V, H => N C (execs rest C.env) V H Q
  | f, V, H => Q f V H
theorem n_cons {st : Stmt} {rest : List Stmt} {Q : Flow → Vals → Led → Prop} (h : N C (exec st C.env) V H (SeqN C rest Q)) : N C (execs (st :: rest) C.env) V H Q := by
  rw [execs_cons]
  refine n_bind (h.mono fun f V' H' q => ?_)
  cases f <;> first | exact q | exact n_pure q
theorem n_nil {Q : Flow → Vals → Led → Prop} (h : Q .next V H) : N C (execs [] C.env) V H Q := n_pure h
theorem n_Return {e : Expr} {pos : Pos} {Q : Flow → Vals → Led → Prop} (h : N C (eval e C.env) V H (fun v V' H' => Q (.ret v) V' H')) : N C (exec (.Return (some e) pos) C.env) V H Q := by
  rw [exec_Return_some C.env e pos]
  exact n_then (w_standAt (n_bind (h.mono fun _ _ _ q => n_pure q)))
theorem n_Expr {e : Expr} {pos : Pos} {Q : Flow → Vals → Led → Prop} (h : N C (eval e C.env) V H (fun v V1 H1 => W C NoE (dropValue e pos v) V1 H1 Q)) (hi : interactive C.env = false) (hs : swapsWith e none pos.line C.env = Pure.pure false) : N C (exec (.Expr e pos) C.env) V H Q := by
  rw [exec_Expr C.env e pos hi hs]
  exact n_then (w_standAt (n_bind (h.mono fun _ _ _ q => w2n q)))
theorem n_Assign1 {t value : Expr} {pos : Pos} {Q : Flow → Vals → Led → Prop} (hs : swapsWithSole [t] value pos.line C.env = Pure.pure false)
    (hw : swappedStores [t] value C.env = Pure.pure none) (h : N C (eval value C.env) V H (fun v V1 H1 => N C (((assignEach [t] C.env).map (·.2)).headD (fun _ => Pure.pure ()) v) V1 H1 (fun _ V2 H2 => Q .next V2 H2))) : N C (exec (.Assign [t] value pos) C.env) V H Q := by
  show N C (do
    standAt pos
    if ← swapsWithSole [t] value pos.line C.env then do
      evalThenUse value C.env fun v => assignAll v ((assignEach [t] C.env).map (·.2))
      Pure.pure .next
    else do
      let v ← eval value C.env
      assignStores C.env v (← swappedStores [t] value C.env) ((assignEach [t] C.env).map (·.2))) V H Q
  rw [hs, hw]
  refine n_then (w_standAt (n_then (w_pure ?_)))
  show N C (do let v ← eval value C.env; _) V H Q
  refine n_bind (h.mono fun v V1 H1 q => n_then (w_pure ?_))
  cases t <;> exact n_bind (q.mono fun _ _ _ q' => n_pure q')
theorem n_let (ok : FnOk F) {x : Str} {p pos : Pos} {value : Expr} {Q : Flow → Vals → Led → Prop}
    (h : N C (eval value C.env) V H (fun v V1 H1 => W C NoE (storeName C.env x v) V1 H1 (fun _ V2 H2 => Q .next V2 H2)))
    (hs : swapsWith value (some (.Name x p)) pos.line C.env = Pure.pure false := by kernel_rfl) (hw : swappedStores [.Name x p] value C.env = Pure.pure none := by kernel_rfl) :
    N C (exec (.Assign [.Name x p] value pos) C.env) V H Q :=
  n_Assign1 hs hw (h.mono fun v V1 H1 q => w2n (w_assign_Name q))
/-- x[i] = v -/
theorem n_AssignItem {o i value : Expr} {p pos : Pos} {Q : Flow → Vals → Led → Prop}
    (h : W C NoE (eval value C.env) V H (fun v V1 H1 => W C NoE (eval o C.env) V1 H1 (fun ov V2 H2 => W C NoE (eval i C.env) V2 H2 (fun iv V3 H3 => N C (setItem ov iv v) V3 H3 (fun _ V4 H4 => Q .next V4 H4)))))
    (hs : swapsWith value (some (.Subscript o i p)) pos.line C.env = Pure.pure false := by kernel_rfl) (hw : swappedStores [.Subscript o i p] value C.env = Pure.pure none := by kernel_rfl) :
    N C (exec (.Assign [.Subscript o i p] value pos) C.env) V H Q := by
  refine n_Assign1 hs hw (w2n (h.mono fun v V1 H1 q => ?_))
  show N C (assign (.Subscript o i p) C.env v) V1 H1 _
  rw [arm_assign_Subscript]
  exact n_then (w_holding (q.mono fun ov V2 H2 q => n_then (w_holding (q.mono fun iv V3 H3 q => n_then (w_standAt (n_bind (n_holding (q.mono fun _ V4 H4 q => w2n (w_release q)))))))))
theorem n_IfT {test : Expr} {body orelse : List Stmt} {pos : Pos} {Q : Flow → Vals → Led → Prop}
    (h : W C NoE (isTrue test C.env (eval test C.env)) V H (fun b V' H' => (b = true → N C (execs body C.env) V' H' Q) ∧ (b = false → N C (execs orelse C.env) V' H' Q))) :
    N C (exec (.If test body orelse pos) C.env) V H Q := by
  rw [exec_If]
  refine n_then (w_standAt (n_then (h.mono fun b V' H' q => ?_)))
  cases b with
  | true => exact q.1 rfl
  | false => exact q.2 rfl

/-! loops -/
structure LoopN (C : Cx F) (target : Expr) (it : Value) (body : List Stmt) (V : Vals) (H : Led) (Q : Flow → Vals → Led → Prop) : Prop where
  run : ∀ s, Vw C V H s → codeN (model prog C.w) C.A (.forLoop target it body [] C.env) (fun r s' => match r with | .ok f => ∃ V' H', Vw C V' H' s' ∧ Q f V' H' | .error _ => False) s
theorem n_For {target iter : Expr} {body : List Stmt} {pos : Pos} {Q : Flow → Vals → Led → Prop}
    (h : W C NoE (eval iter C.env) V H (fun x V1 H1 => W C NoE (pyIter x) V1 H1 (fun it V2 H2 => LoopN C target it body V2 H2 Q)))
    (hs : ∀ x, foldedSetIterable iter C.env x = Pure.pure x := by intro _; kernel_rfl) : N C (exec (.For target iter body [] pos) C.env) V H Q := by
  rw [exec_For]
  refine n_then (w_standAt (n_then (h.mono fun x V1 H1 q => ?_)))
  rw [hs]
  refine n_then (w_pure (n_then (w_standAt (n_then (w_holding (q.mono fun it V2 H2 q => .mk fun s v => ?_))))))
  unfold runOwn
  refine wpN_onRaise (wpN_run (codeN_mono (q.run s v) fun r s' hr => ?_) rfl)
  cases r with
  | ok f => exact hr
  | error e => exact hr.elim
theorem nloop_inv {target : Expr} {it : Value} {body : List Stmt} {Q : Flow → Vals → Led → Prop} (I : Nat → Vals → Led → Prop)
    (turn : ∀ n V H, I n V H → W C NoE (pyNext it) V H (fun r V1 H1 => match r with
      | none => Q .next V1 H1
      | some v => W C NoE (letOwnedTupleGo target it v) V1 H1 (fun _ V1 H1 => W C NoE (assign target C.env v) V1 H1 (fun _ V2 H2 => N C (execs body C.env) V2 H2 (Turn (fun V3 H3 => ∃ m, m < n ∧ I m V3 H3) Q)))))
    {n : Nat} (h : I n V H) : LoopN C target it body V H Q := .mk fun s v => by
  refine codeN_loop rfl rfl (fun n s => ∃ V H, Vw C V H s ∧ I n V H) (fun n s hI => ?_) n ⟨V, H, v, h⟩
  obtain ⟨V, H, v, hI⟩ := hI
  show wpN _ _ ((forTurn target it body [] C.env).onRaise (fun x => do noteFrame x C.env; theTreesLotGoes x)) _ _ s
  refine wpN_mono (E := fun _ _ => False) (wpN_onRaise ?_) (fun _ _ x => x) fun _ _ x => x.elim
  simp only [forTurn]
  have key : N C (pyNext it) V H _ := w2n (turn n V H hI)
  refine wpN_then (wpAny_standAt (wpN_bind (wpN_onRaise (wpN_mono (key.run s v) (fun r s₁ ⟨V1, H1, v1, h₁⟩ => ?_) fun _ _ x => x))))
  cases r with
  | none =>
    refine wpN_pure (.inr ⟨rfl, rfl, codeN_any ?_⟩)
    exact codeAny_block (wpAny_execs_nil ⟨V1, H1, v1, h₁⟩)
  | some x =>
    refine wpN_bind (wpN_mono ((w2n h₁ : N C _ V1 H1 _).run s₁ v1) (fun _ s₂ ⟨V2, H2, v2, h₂⟩ => ?_) fun _ _ x => x)
    refine wpN_bind (wpN_mono ((w2n h₂ : N C _ V2 H2 _).run s₂ v2) (fun _ s₃ ⟨V3, H3, v3, h₃⟩ => ?_) fun _ _ x => x)
    refine wpN_bind (wpN_mono (h₃.run s₃ v3) (fun f s₄ ⟨V4, H4, v4, h₄⟩ => ?_) fun _ _ x => x)
    cases f with
    | next => obtain ⟨m, hm, hI'⟩ := h₄; exact wpN_pure (.inl ⟨rfl, m, hm, V4, H4, v4, hI'⟩)
    | cont => obtain ⟨m, hm, hI'⟩ := h₄; exact wpN_pure (.inl ⟨rfl, m, hm, V4, H4, v4, hI'⟩)
    | brk => exact wpN_pure ⟨V4, H4, v4, h₄⟩
    | ret v => exact wpN_pure ⟨V4, H4, v4, h₄⟩
/-- for x in range(n) -/
theorem nloop_range {target : Expr} {it : Addr} {body : List Stmt} {n : Nat} {Q : Flow → Vals → Led → Prop} (I : Nat → Vals → Led → Prop) (h0 : I 0 V H)
    (step : ∀ i V H t, i < n → I i V H → W C NoE (assign target C.env (.int (i : Nat) t)) V ((it, rangeItO ((i : Int) + 1) ((n : Int) - i - 1)) :: H) (fun _ V2 H2 => N C (execs body C.env) V2 H2
      (Turn (fun V3 H3 => ∃ H', SubP ((it, rangeItO ((i : Int) + 1) ((n : Int) - i - 1)) :: H') H3 ∧ I (i + 1) V3 H') Q)))
    (fin : ∀ V H, I n V H → Q .next V H) (ht : ∀ v, letOwnedTupleGo target (.ref it) v = Pure.pure () := by intro _; rfl) : LoopN C target (.ref it) body V ((it, rangeItO 0 n) :: H) Q := by
  have go : LoopN C target (.ref it) body V ((it, rangeItO ((0 : Nat) : Int) ((n : Int) - (0 : Nat))) :: H) Q := by
    refine nloop_inv (fun m V H => ∃ i H', i + m = n ∧ SubP ((it, rangeItO (i : Nat) ((n : Int) - i)) :: H') H ∧ I i V H') (fun m V H ⟨i, H', hm, hs, hI⟩ => w_drop' hs ?_) (n := n) ⟨0, H, by omega, .rfl, h0⟩
    by_cases hi : i < n
    · refine w_next_range (by omega) fun t => ?_
      dsimp only
      refine w_noTup (ht _) ?_
      refine (step i V H' t hi hI).mono fun _ V2 H2 q => q.mono fun f V3 H3 q => ?_
      have key : ∀ V3 H3, (∃ H', SubP ((it, rangeItO ((i : Int) + 1) ((n : Int) - i - 1)) :: H') H3 ∧ I (i + 1) V3 H') → ∃ m', m' < m ∧ ∃ i H', i + m' = n ∧ SubP ((it, rangeItO (i : Nat) ((n : Int) - i)) :: H') H3 ∧ I i V3 H' := fun V3 H3 ⟨H', a, b⟩ =>
        ⟨m - 1, by omega, i + 1, H', by omega, by
          have e : (((i + 1 : Nat) : Int)) = (i : Int) + 1 := by omega
          have e2 : (n : Int) - ((i : Int) + 1) = (n : Int) - i - 1 := by omega
          rw [e, e2]; exact a, b⟩
      cases f with
      | next => exact key _ _ q
      | cont => exact key _ _ q
      | brk => exact q
      | ret v => exact q
    · have : i = n := by omega
      subst this
      exact w_end_range (by omega) (fin _ _ hI)
  have e : (n : Int) - (0 : Nat) = n := by omega
  rw [e] at go
  exact go

/-! calls -/
theorem n_Call {func : Expr} {args : List Expr} {kws : List Keyword} {pos : Pos} {Q : Value → Vals → Led → Prop}
    (h : W C NoE (eval func C.env) V H (fun f V1 H1 => N C (callWith pos f [] (backTo pos (starEach args C.env)) (backToKw pos (keywordEach kws C.env))) V1 H1 Q))
    (he : eval (.Call func args kws pos) C.env = (do callWith pos (← eval func C.env) [] (backTo pos (starEach args C.env)) (backToKw pos (keywordEach kws C.env))) := by kernel_rfl) :
    N C (eval (.Call func args kws pos) C.env) V H Q := by rw [he]; exact n_then h
theorem n_MethodCall {o : Expr} {name : Str} {apos pos : Pos} {args : List Expr} {kws : List Keyword} {Q : Value → Vals → Led → Prop}
    (h : W C NoE (attributeBase o name C.env (eval o C.env)) V H (fun ov V1 H1 => W C NoE (getMethod ov name (do return (← importBound o C.env).getD true)) V1 H1 (fun fx V2 H2 => N C (callWith pos fx.1 fx.2 (backTo pos (starEach args C.env)) (backToKw pos (keywordEach kws C.env))) V2 H2 Q)))
    (he : eval (.Call (.Attribute o name apos) args kws pos) C.env = (do
      let ov ← attributeBase o name C.env (eval o C.env)
      standAt apos.atName
      let (f, first) ← holding [ov] (getMethod ov name (do return (← importBound o C.env).getD true))
      callWith pos f first (backTo pos (starEach args C.env)) (backToKw pos (keywordEach kws C.env))) := by kernel_rfl) :
    N C (eval (.Call (.Attribute o name apos) args kws pos) C.env) V H Q := by
  rw [he]
  exact n_then (h.mono fun _ _ _ q => n_then (w_standAt (n_then (w_holding (q.mono fun fx _ _ q => q)))))
theorem n_callWith {pos : Pos} {f : Value} {first : List Value} {args : List (Bool × Sem Value)} {kws : List (Option Str × Sem Value)} {Q : Value → Vals → Led → Prop}
    (h : W C NoE (evalArgs f true args kws) V H (fun a V1 H1 => Kept C H1 f ∧ N C (call f (first ++ a.pos) a.kw) V1 H1 Q)) : N C (callWith pos f first args kws) V H Q := by
  unfold callWith
  refine n_then (w_holding (h.mono fun a V1 H1 q => n_then (w_standAt ?_)))
  refine .mk fun s v => ?_
  obtain ⟨k, hk', L⟩ := q.1 V1 s v
  refine wpN_then (L.here ?_)
  have tail : ∀ {t : Sem Value}, N C t V1 H1 Q → wpN (model prog C.w) C.A (t >>= fun r => PySem.holding [r] point >>= fun _ => Pure.pure r) (fun a s' => ∃ V' H', Vw C V' H' s' ∧ Q a V' H') (fun _ _ => False) s :=
    fun ht => (n_bind (ht.mono fun r _ _ q => n_then (f := fun _ => Pure.pure r) (w_holding (w_point (n_pure q)))) : N C (_ >>= fun r => PySem.holding [r] point >>= fun _ => Pure.pure r) V1 H1 Q).run s v
  have marked (mk : Value) : N C (callMarked mk f (first ++ a.pos) a.kw) V1 H1 Q := by unfold callMarked; exact n_keep q.2
  generalize hst : (args.any (·.1) || kws.any (·.1.isNone)) = st
  rcases hk' with rfl | rfl | rfl <;> cases st <;> dsimp only <;> first | exact tail q.2 | exact tail (marked _) | exact tail (n_operate q.2) | (split <;> first | exact tail q.2 | exact tail (marked _))

/-- the contract of a call, at contexts without decoders -/
noncomputable def SpN (w : World) (n : Nat) (t : Sem Value) (P : Led) (pre : Heap → Prop) (Q : Value → Led → Prop) : Prop :=
  ∀ A s, Pre w n P pre A s → wpN (model prog w) A t (fun v s' => ∃ P', StepTo (keys P) s s' P' ∧ Q v P') (fun _ _ => False) s
theorem n_sp {m : Nat} {t : Sem Value} {P R : Led} {pre : Heap → Prop} {Qs : Value → Led → Prop} {Q : Value → Vals → Led → Prop}
    (hsp : SpN C.w m t P pre Qs) (hm : m ≤ C.n) (hH : SubP (P ++ R) H) (hpre : ∀ h : Heap, (∀ a o, Has C R a o → h.get? a = some o) → pre h) (h : ∀ v P', Qs v P' → Q v V (P' ++ R)) :
    N C t V H Q := n_drop' hH <| .mk fun s v => by
  obtain ⟨hid, back⟩ := callSplit v
  have pr : Pre C.w m P pre C.A s := ⟨C.aok.le hm, C.base.keeps fun a o e => hid a o (.inr e), fun p hp => v.at (List.mem_append_left R hp), (List.nodup_append.mp (by have := v.nd; rw [List.map_append] at this; exact this)).1, hpre _ hid⟩
  exact wpN_mono (hsp C.A s pr) (fun a s' ⟨P', st, q⟩ => ⟨V, _, back s' P' st, h a P' q⟩) fun _ _ x => x
theorem Vw.put {s : Shared} {b : Addr} {o : Obj} {R : Led} (v : Vw C V R s) (hb : s.heap.get? b = some o) (hL : b ≠ C.L) (h0 : C.h₀.get? b = none) (hn : b ∉ R.map (·.1)) : Vw C V ((b, o) :: R) s :=
  ⟨v.fr, fun p hp => by
    rcases List.mem_cons.mp hp with rfl | hp
    · exact ⟨hb, hL, h0⟩
    · exact v.nw p hp, List.nodup_cons.mpr ⟨hn, v.nd⟩, v.gens, v.os⟩
/-- buf[:] = .. -/
theorem n_setslice {b sl : Addr} {bs cs : List UInt8} {t : Tok} {R : Led} {Q : Unit → Vals → Led → Prop} (hH : SubP ((b, baO bs) :: R) H) (hs : Has C R sl sliceN) (hl : cs.length = bs.length) (hz : cs.length ≤ 1000) (h : Q () V ((b, baO cs) :: R)) :
    N C (setItem (.ref b) (.ref sl) (.bytes cs.toArray t)) V H Q := n_drop' hH <| .mk fun s v => by
  have hsl : Has C ((b, baO bs) :: R) sl sliceN := hs.cons
  refine wpN_setslice (v.at (.head _)) (hsl.at v) hl hz C.aok.gd fun h' k g => ?_
  have nd := List.nodup_cons.mp v.nd
  have hb := v.nw _ (.head _)
  have v2 := v.extBut rfl (h' := h') fun a o hab e => k a o hab e
  exact ⟨V, _, v2.put g hb.2.1 hb.2.2 nd.1, h⟩
/-- bytearray(n) -/
theorem n_bytearray {n : Nat} {t : Tok} {Q : Value → Vals → Led → Prop} (hn : n ≤ 1000) (h : ∀ b, Q (.ref b) V ((b, baO (List.replicate n 0)) :: H)) : N C (call (.type "bytearray") [.int n t]) V H Q := .mk fun s v => by
  refine wpN_bytearray (cs := List.replicate n 0) (fun A s a hg ha => init_int ha hn hg) C.aok.gd fun h' k z g => ?_
  have v2 := v.keeps k
  have hN : ∀ p ∈ H, p.1 ≠ s.heap.objs.size := fun p hp => Nat.ne_of_lt (Heap.lt_size (v.at (a := p.1) (o := p.2) hp))
  have fresh : s.heap.get? s.heap.objs.size = none := by
    cases e : s.heap.get? s.heap.objs.size with
    | none => rfl
    | some o => exact absurd (Heap.lt_size e) (Nat.lt_irrefl _)
  refine ⟨V, _, v2.put g (fun e => ?_) ?_ (fun hm => ?_), h _⟩
  · obtain ⟨oL, es, ep, hLL, r⟩ := v.fr.ns
    rw [← e, fresh] at hLL; cases hLL
  · cases q : C.h₀.get? s.heap.objs.size with
    | none => rfl
    | some o => have := v.old q; rw [fresh] at this; cases this
  · obtain ⟨p, hp, e⟩ := List.mem_map.mp hm
    exact hN p hp e
end
section
variable {F : Fn} {C : Cx F} {E : Value → Vals → Led → Prop} {V : Vals} {H : Led} {Q : Value → Vals → Led → Prop}
theorem w_len_ba {b : Addr} {bs : List UInt8} (hb : Has C H b (baO bs)) (hz : bs.length ≤ 1000000) (h : ∀ t, Q (.int bs.length t) V H) : W C E (call (.builtin "len") [.ref b]) V H Q := .mk fun s v =>
  len_ba (hb.at v) hz fun t k => ⟨V, H, v.toks _, h _⟩
theorem w_bytes_ba {b : Addr} {bs : List UInt8} (hb : Has C H b (baO bs)) (hz : bs.length ≤ 1000000) (h : ∀ t, Q (.bytes bs.toArray t) V H) : W C E (call (.type "bytes") [.ref b]) V H Q := .mk fun s v =>
  bytes_of_ba (hb.at v) hz fun t k => ⟨V, H, v.toks _, h _⟩
theorem w_bytes_bytes {b : Array UInt8} {t : Tok} (h : Q (.bytes b t) V H) : W C E (call (.type "bytes") [.bytes b t]) V H Q := .mk fun s v => bytes_of_bytes ⟨V, H, v, h⟩
theorem w_typeof_ba {b : Addr} {bs : List UInt8} (hb : Has C H b (baO bs)) (h : Q (.type "bytearray") V H) : W C E (call (.type "type") [.ref b]) V H Q := .mk fun s v =>
  call_type_of (ba_typeIs (hb.at v)) (by decide) ⟨V, H, v, h⟩
end
-- part N2
noncomputable def pushAll (h : Heap) : List Obj → Heap
  | [] => h
  | o :: r => pushAll (h.push o) r
theorem pushAll_keep : ∀ (os : List Obj) (h : Heap) {a : Addr} {o : Obj}, h.get? a = some o → (pushAll h os).get? a = some o
  | [], _, _, _, e => e
  | _ :: r, _, _, _, e => pushAll_keep r _ (Heap.get?_push_of_some _ e)
theorem pushAll_size : ∀ (os : List Obj) (h : Heap), (pushAll h os).objs.size = h.objs.size + os.length
  | [], _ => rfl
  | o :: r, h => by
    show (pushAll (h.push o) r).objs.size = _
    rw [pushAll_size r, Heap.size_push, List.length_cons]; omega
noncomputable def ledOf (N : Nat) : List Obj → Led
  | [] => []
  | o :: r => (N, o) :: ledOf (N + 1) r
theorem ledOf_ge : ∀ (os : List Obj) (N : Nat), ∀ p ∈ ledOf N os, N ≤ (show Nat from p.1) ∧ (show Nat from p.1) < N + os.length
  | [], _, _, hp => nomatch hp
  | o :: r, N, p, hp => by
    rcases List.mem_cons.mp hp with rfl | hp
    · exact ⟨Nat.le_refl _, by show N < N + (r.length + 1); omega⟩
    · obtain ⟨h1, h2⟩ := ledOf_ge r (N + 1) p hp
      refine ⟨Nat.le_of_succ_le h1, Nat.lt_of_lt_of_le h2 ?_⟩
      rw [List.length_cons]; omega
theorem ledOf_nd : ∀ (os : List Obj) (N : Nat), (keys (ledOf N os)).Nodup
  | [], _ => List.nodup_nil
  | o :: r, N => List.nodup_cons.mpr ⟨fun hm => by
      obtain ⟨p, hp, e⟩ := List.mem_map.mp hm
      have h1 := (ledOf_ge r (N + 1) p hp).1
      have e2 : (show Nat from p.1) = N := e
      rw [e2] at h1
      exact Nat.not_succ_le_self _ h1, ledOf_nd r (N + 1)⟩
theorem ledOf_get : ∀ (os : List Obj) (h : Heap), (∀ o ∈ os, o.isFreed = false) → ∀ p ∈ ledOf h.objs.size os, (pushAll h os).get? p.1 = some p.2
  | [], _, _, _, hp => nomatch hp
  | o :: r, h, hf, p, hp => by
    rcases List.mem_cons.mp hp with rfl | hp
    · exact pushAll_keep r _ (Heap.get?_push_size _ (hf o (.head _)))
    · refine ledOf_get r (h.push o) (fun o ho => hf o (.tail _ ho)) p ?_
      rw [Heap.size_push]; exact hp

/-- binding that makes objects -/
structure BindsMade (fd : FuncData) (args : Args) (binds : Addr → List (Str × Value)) (os : List Obj) : Prop where
  go : ∀ (M : Model) (A : Around) (E : Value → Shared → Prop) (Q : List (Str × Value) → Shared → Prop) (s : Shared), Q (binds s.heap.objs.size) { s with heap := pushAll s.heap os } → wpAny M A (bindArgs fd args) Q E s

section
variable {prog : Program} {w : World} {A : Around} {E : Value → Shared → Prop} {s : Shared}
theorem tree_call_made {a : Addr} {o : Obj} {fd : FuncData} {body : List Stmt} {args : Args} {binds : Addr → List (Str × Value)} {os : List Obj} {Q : Fin → Shared → Prop}
    (hroom : A.depth < recursionLimit) (ho : s.heap.get? a = some o) (hdata : o.data = .func fd) (hlim : s.heap.NoLimit) (hcd : s.heap.CodeRec fd.code fd.qualname)
    (hbody : fd.body = .stmts body) (hbind : BindsMade fd args binds os)
    (hcell : ∀ x ∈ fd.scope.names, x.2 ≠ .cell) (hloc : ∀ x ∈ binds s.heap.objs.size, fd.scope.names.lookup x.1 = some .local) (hco : fd.scope.isCoroutine = false) (hgen : fd.scope.isGenerator = false) (hk : fd.scope.kind = .function)
    (h : ∀ h₀, h₀.Ns (s.heap.objs.size + os.length) (fun x => (binds s.heap.objs.size).reverse.lookup x) → (∀ b o, (pushAll s.heap os).get? b = some o → h₀.get? b = some o) →
      Q (.again (.func body (callEnv fd (s.heap.objs.size + os.length) a))) { s with heap := h₀, toks := s.toks + (binds s.heap.objs.size).length }) :
    wpAny (model prog w) A (callAny (.ref a) args) Q E s := by
  simp only [callAny]
  refine wpAny_bind (wpAny_load ho ?_)
  obtain ⟨c, oc, vs, tq, hc, hoc, hdc, hq⟩ := hcd
  simp only [hdata, callFunction, hco, hgen, hbody, hc]
  refine wpAny_bind (m := field (.ref c) 1) (wpAny_field hoc hdc hq (wpAny_bind (wpAny_pure ?_)))
  refine wpAny_bind (hbind.go _ _ _ _ _ ?_)
  have hsz : (pushAll s.heap os).objs.size = s.heap.objs.size + os.length := pushAll_size _ _
  refine wpAny_bind (wpAny_newFunctionEnv hcell hloc (fun h₀ hns hsb => ?_) hk)
  have keep : ∀ b o, (pushAll s.heap os).get? b = some o → h₀.get? b = some o := fun b o e => hsb.extBut b o (Nat.ne_of_lt (Heap.lt_size e)) (Heap.get?_push_of_some _ e)
  refine wpAny_bind (wpAny_enterFrame ?_ hroom ?_)
  · obtain ⟨mc, hns', hn⟩ := hlim
    exact ⟨mc, hns'.keeps fun b o e => keep b o (pushAll_keep _ _ e), hn⟩
  · refine wpAny_pure ?_
    have := h h₀ (by rw [← hsz]; exact hns) keep
    rw [← hsz] at this
    unfold callEnv at this
    rw [hc] at this
    exact this
end

theorem Vw.start {F : Fn} {C : Cx F} {s₁ : Shared} {P : Led} {os : List Obj} {s : Shared} {V₀ : Vals} {h₀ : Heap} (hh : C.h₀ = hideAll s.heap (keys P)) (hL : C.L = s.heap.objs.size + os.length) (hg : C.g₀ = s.gens) (ho : C.os₀ = s.os)
    (hs : s₁.heap = h₀) (hg1 : s₁.gens = s.gens) (ho1 : s₁.os = s.os) (hf : ∀ o ∈ os, o.isFreed = false) (led : ∀ p ∈ P, s.heap.get? p.1 = some p.2) (nd : (keys P).Nodup) (hns : h₀.Ns C.L (slot F.names V₀)) (hk : ∀ b o, (pushAll s.heap os).get? b = some o → h₀.get? b = some o) :
    Vw C V₀ (ledOf s.heap.objs.size os ++ P) s₁ := by
  subst hs
  have nm : ∀ b o, (hideAll s.heap (keys P)).get? b = some o → s.heap.get? b = some o := fun _ _ e => of_hideAll _ e
  have nn : ∀ k : Nat, s.heap.objs.size ≤ k → s.heap.get? k = none := fun k hk => by
    cases e : s.heap.get? k with
    | none => rfl
    | some o => exact absurd (Nat.lt_of_lt_of_le (Heap.lt_size e) hk) (Nat.lt_irrefl _)
  refine ⟨⟨hns, fun b o e => ?_, ?_⟩, fun p hp => ?_, ?_, by rw [hg, hg1]; exact .refl _, by rw [ho1, ho]⟩
  · rw [hh] at e
    exact hk _ _ (pushAll_keep _ _ (nm _ _ e))
  · rw [hh, hideAll_size, hL]; exact Nat.le_add_right _ _
  · rcases List.mem_append.mp hp with q | q
    · have r := ledOf_ge _ _ p q
      refine ⟨hk _ _ (ledOf_get _ _ hf p q), ?_, ?_⟩
      · rw [hL]; exact Nat.ne_of_lt r.2
      · rw [hh]
        cases e : (hideAll s.heap (keys P)).get? p.1 with
        | none => rfl
        | some o => have := nm _ _ e; rw [nn _ r.1] at this; cases this
    · have lt := Heap.lt_size (led p q)
      refine ⟨hk _ _ (pushAll_keep _ _ (led p q)), ?_, ?_⟩
      · rw [hL]; exact Nat.ne_of_lt (Nat.lt_of_lt_of_le lt (Nat.le_add_right _ _))
      · rw [hh]; exact hideAll_none _ (List.mem_map_of_mem q)
  · rw [List.map_append, List.nodup_append]
    refine ⟨ledOf_nd _ _, nd, fun a ha b hb e => ?_⟩
    subst e
    obtain ⟨p, hp, rfl⟩ := List.mem_map.mp ha
    obtain ⟨q, hq, e⟩ := List.mem_map.mp hb
    have r := (ledOf_ge _ _ p hp).1
    have lt := Heap.lt_size (led q hq)
    have e2 : q.1 = p.1 := e
    rw [e2] at lt
    exact Nat.lt_irrefl _ (Nat.lt_of_lt_of_le lt r)

noncomputable def Cx.enterM {w : World} {n : Nat} {P : Led} {pre : Heap → Prop} {A : Around} {s : Shared} (F : Fn) (k : Nat) (p : Pre w (n + 1) P pre A s) : Cx F :=
  { w, A := A.deeper (callEnv F.fd (s.heap.objs.size + k) F.addr), L := s.heap.objs.size + k, h₀ := hideAll s.heap (keys P), g₀ := s.gens, os₀ := s.os, n, aok := p.aok.deeper _, base := p.base }

/-- a def whose binding makes objects, called -/
theorem SpC.defM {F : Fn} {w : World} {n : Nat} {P : Led} {pre : Heap → Prop} {Q : Value → Led → Prop} {body : List Stmt} {args : List Value} {kw : List (Str × Value)} {vals : Addr → List Value} {k : Nat} {os : List Obj} {V₀ : Addr → Vals}
    (hF : FnIs w F) (hbody : F.fd.body = .stmts body) (hgen : F.fd.scope.isGenerator = false)
    (hbind : BindsMade F.fd ⟨args, kw⟩ (fun N => (F.names.take k).zip (vals N)) os) (hf : ∀ o ∈ os, o.isFreed = false) (hk : ∀ N, (vals N).length = k) (hl : k ≤ F.names.length) (hV : ∀ N, (vals N).map some ++ List.replicate (F.names.length - k) none = V₀ N)
    (h : ∀ (C : Cx F) (N : Nat), sysModules < N → C.w = w → C.n = n → pre C.h₀ → W C NoE (execs body C.env) (V₀ N) (ledOf N os ++ P) (fun f _ H' => ∃ H'', SubP H'' H' ∧ Q (match f with | .ret v => v | _ => .none) H'')) :
    SpC w (n + 1) (.ref F.addr) ⟨args, kw⟩ P pre Q NoX := fun A s p => by
  have nm : ∀ b o, (hideAll s.heap (keys P)).get? b = some o → s.heap.get? b = some o := fun _ _ e => of_hideAll _ e
  have B := p.base.keeps nm
  refine codeAny_of_tree ?_
  show wpAny _ A.in1 (callAny (.ref F.addr) ⟨args, kw⟩) _ _ s
  refine tree_call_made (by have := p.aok.dep; show A.depth < 1000; omega) (B.kin _ _ hF.at_) rfl B.lim (codeRec_of B.kin hF.cd) hbody hbind
    (fun x hx e => by have := List.all_eq_true.mp hF.cell x hx; rw [e] at this; cases this) (fun x hx => hF.ok.loc _ (List.mem_of_mem_take (List.of_mem_zip (a := x.1) (b := x.2) hx).1)) hF.co hgen hF.ok.kind (fun h₁ hns hkk => ?_)
  refine ⟨rfl, codeAny_func ?_⟩
  have e : (fun x => ((F.names.take k).zip (vals s.heap.objs.size)).reverse.lookup x) = slot F.names (V₀ s.heap.objs.size) := funext fun x => by
    have := revlook (x := x) (args := vals s.heap.objs.size) hF.ok.nd (by rw [hk]; exact hl)
    rw [hk, hV] at this
    exact this
  rw [e] at hns
  have v := Vw.start (C := Cx.enterM F os.length p) (s₁ := { s with heap := h₁, toks := s.toks + ((F.names.take k).zip (vals s.heap.objs.size)).length }) rfl rfl rfl rfl rfl rfl rfl hf p.led p.nd hns hkk
  have hN : sysModules < s.heap.objs.size := by
    obtain ⟨mg, hg⟩ := B.g
    exact Nat.lt_trans (by decide) hg.lt
  have key := (h (Cx.enterM F os.length p) s.heap.objs.size hN rfl rfl p.pre).run _ v
  rw [show (Cx.enterM F os.length p).env = callEnv F.fd (s.heap.objs.size + os.length) F.addr from congrFun (congrFun hF.mk_ _) _] at key
  refine wpAny_mono key (fun f s' ⟨V', H', v', H'', hs, q⟩ => ?_) fun e s' ⟨_, _, _, x⟩ => x.elim
  have st := (v'.subP hs).step (s := s) (own := keys P) rfl rfl rfl
  cases f <;> exact ⟨H'', st, q⟩

theorem codeN_func {prog : Program} {w : World} {A : Around} {s : Shared} {R : Result → Shared → Prop} {body : List Stmt} {env : Env}
    (h : wpN (model prog w) (A.deeper env) (execs body env) (fun f s' => R (.ok (.ret (match f with | .ret v => v | _ => .none))) s') (fun _ _ => False) s) : codeN (model prog w) A (.func body env) R s := by
  refine codeN_of_tree ?_
  show wpN _ (A.deeper env) (do point; match ← (execs body env).onRaise (leaving env) with | .ret v => ret v | _ => ret .none) _ _ s
  refine wpN_then (wpAny_point (wpN_bind (wpN_onRaise (wpN_mono h (fun f s' h' => ?_) fun _ _ h' => h'))))
  cases f <;> exact wpN_pure h'
/-- the same for the code of a call -/
noncomputable def SpNC (w : World) (n : Nat) (f : Value) (args : Args) (P : Led) (pre : Heap → Prop) (Q : Value → Led → Prop) : Prop :=
  ∀ A s, Pre w n P pre A s → codeN (model prog w) A (.call f args) (Back w s P Q NoX) s
theorem SpNC.sp {w : World} {n : Nat} {f : Value} {pos : List Value} {kw : List (Str × Value)} {P : Led} {pre : Heap → Prop} {Q : Value → Led → Prop} (h : SpNC w n f ⟨pos, kw⟩ P pre Q) : SpN w n (call f pos kw) P pre Q := fun A s p =>
  wpN_call (codeN_mono (h A s p) fun r s' z => by
    rcases r with e | (v | _ | _ | _) <;> first | exact z | exact z.elim | (obtain ⟨_, _, x⟩ := z; exact x.elim))
theorem SpNC.defM {F : Fn} {w : World} {n : Nat} {P : Led} {pre : Heap → Prop} {Q : Value → Led → Prop} {body : List Stmt} {args : List Value} {kw : List (Str × Value)} {vals : Addr → List Value} {k : Nat} {os : List Obj} {V₀ : Addr → Vals}
    (hF : FnIs w F) (hbody : F.fd.body = .stmts body) (hgen : F.fd.scope.isGenerator = false)
    (hbind : BindsMade F.fd ⟨args, kw⟩ (fun N => (F.names.take k).zip (vals N)) os) (hf : ∀ o ∈ os, o.isFreed = false) (hk : ∀ N, (vals N).length = k) (hl : k ≤ F.names.length) (hV : ∀ N, (vals N).map some ++ List.replicate (F.names.length - k) none = V₀ N)
    (h : ∀ (C : Cx F) (N : Nat), sysModules < N → C.w = w → C.n = n → pre C.h₀ → Mine.N C (execs body C.env) (V₀ N) (ledOf N os ++ P) (fun f _ H' => ∃ H'', SubP H'' H' ∧ Q (match f with | .ret v => v | _ => .none) H'')) :
    SpNC w (n + 1) (.ref F.addr) ⟨args, kw⟩ P pre Q := fun A s p => by
  have nm : ∀ b o, (hideAll s.heap (keys P)).get? b = some o → s.heap.get? b = some o := fun _ _ e => of_hideAll _ e
  have B := p.base.keeps nm
  refine codeN_of_tree ?_
  show wpN _ A.in1 (callAny (.ref F.addr) ⟨args, kw⟩) _ _ s
  refine wpN_any (tree_call_made (by have := p.aok.dep; show A.depth < 1000; omega) (B.kin _ _ hF.at_) rfl B.lim (codeRec_of B.kin hF.cd) hbody hbind
    (fun x hx e => by have := List.all_eq_true.mp hF.cell x hx; rw [e] at this; cases this) (fun x hx => hF.ok.loc _ (List.mem_of_mem_take (List.of_mem_zip (a := x.1) (b := x.2) hx).1)) hF.co hgen hF.ok.kind (fun h₁ hns hkk => ?_))
  refine ⟨rfl, rfl, codeN_func ?_⟩
  have e : (fun x => ((F.names.take k).zip (vals s.heap.objs.size)).reverse.lookup x) = slot F.names (V₀ s.heap.objs.size) := funext fun x => by
    have := revlook (x := x) (args := vals s.heap.objs.size) hF.ok.nd (by rw [hk]; exact hl)
    rw [hk, hV] at this
    exact this
  rw [e] at hns
  have v := Vw.start (C := Cx.enterM F os.length p) (s₁ := { s with heap := h₁, toks := s.toks + ((F.names.take k).zip (vals s.heap.objs.size)).length }) rfl rfl rfl rfl rfl rfl rfl hf p.led p.nd hns hkk
  have hN : sysModules < s.heap.objs.size := by
    obtain ⟨mg, hg⟩ := B.g
    exact Nat.lt_trans (by decide) hg.lt
  have key := (h (Cx.enterM F os.length p) s.heap.objs.size hN rfl rfl p.pre).run _ v
  rw [show (Cx.enterM F os.length p).env = callEnv F.fd (s.heap.objs.size + os.length) F.addr from congrFun (congrFun hF.mk_ _) _] at key
  refine wpN_mono key (fun f s' ⟨V', H', v', H'', hs, q⟩ => ?_) fun _ _ x => x
  have st := (v'.subP hs).step (s := s) (own := keys P) rfl rfl rfl
  cases f <;> exact ⟨H'', st, q⟩

theorem SpN.defM {F : Fn} {w : World} {n : Nat} {P : Led} {pre : Heap → Prop} {Q : Value → Led → Prop} {body : List Stmt} {args : List Value} {kw : List (Str × Value)} {vals : Addr → List Value} {k : Nat} {os : List Obj} {V₀ : Addr → Vals}
    (hF : FnIs w F) (hbody : F.fd.body = .stmts body) (hgen : F.fd.scope.isGenerator = false)
    (hbind : BindsMade F.fd ⟨args, kw⟩ (fun N => (F.names.take k).zip (vals N)) os) (hf : ∀ o ∈ os, o.isFreed = false) (hk : ∀ N, (vals N).length = k) (hl : k ≤ F.names.length) (hV : ∀ N, (vals N).map some ++ List.replicate (F.names.length - k) none = V₀ N)
    (h : ∀ (C : Cx F) (N : Nat), sysModules < N → C.w = w → C.n = n → pre C.h₀ → Mine.N C (execs body C.env) (V₀ N) (ledOf N os ++ P) (fun f _ H' => ∃ H'', SubP H'' H' ∧ Q (match f with | .ret v => v | _ => .none) H'')) :
    SpN w (n + 1) (call (.ref F.addr) args kw) P pre Q := SpNC.sp (SpNC.defM hF hbody hgen hbind hf hk hl hV h)
theorem methodN {prog : Program} {w : World} {A : Around} {s : Shared} {R : Result → Shared → Prop} {q f : Addr} {self : Value} {pos : List Value} {kw : List (Str × Value)} (hq : s.heap.get? q = some (methodObj (.ref f) self)) (h : codeN (model prog w) A (.call (.ref f) ⟨self :: pos, kw⟩) R s) : codeN (model prog w) A (.call (.ref q) ⟨pos, kw⟩) R s := by
  refine codeN_of_tree ?_
  show wpN _ _ (callAny (.ref q) ⟨pos, kw⟩) _ _ s
  simp only [callAny]
  refine wpN_then (wpAny_load hq ?_)
  exact wpN_pure ⟨rfl, rfl, h⟩
section
variable {F : Fn} {C : Cx F} {V : Vals} {H : Led}
/-- a bound method, called -/
theorem n_callM {q f : Addr} {self : Value} {pos : List Value} {kw : List (Str × Value)} {m : Nat} {P R : Led} {pre : Heap → Prop} {Qs : Value → Led → Prop} {Q : Value → Vals → Led → Prop} (hq : (q, methodObj (.ref f) self) ∈ P ++ R)
    (hsp : SpNC C.w m (.ref f) ⟨self :: pos, kw⟩ P pre Qs) (hm : m ≤ C.n) (hH : SubP (P ++ R) H) (hpre : ∀ h : Heap, (∀ a o, Has C R a o → h.get? a = some o) → pre h) (h : ∀ v P', Qs v P' → Q v V (P' ++ R)) :
    N C (call (.ref q) pos kw) V H Q := n_drop' hH <| .mk fun s v => by
  obtain ⟨hid, back⟩ := callSplit v
  have pr : Pre C.w m P pre C.A s := ⟨C.aok.le hm, C.base.keeps fun a o e => hid a o (.inr e), fun p hp => v.at (List.mem_append_left R hp), (List.nodup_append.mp (by have := v.nd; rw [List.map_append] at this; exact this)).1, hpre _ hid⟩
  refine wpN_call (methodN (v.at hq) (codeN_mono (hsp C.A s pr) fun r s' z => ?_))
  cases r with
  | error e => obtain ⟨P', st, x⟩ := z; exact x.elim
  | ok f =>
    cases f with
    | ret r => obtain ⟨P', st, q⟩ := z; exact ⟨V, _, back s' P' st, h r P' q⟩
    | next => exact z.elim
    | brk => exact z.elim
    | cont => exact z.elim
end

/-- a binding without new objects, as one that makes none -/
theorem BindsMade.of_eq {fd : FuncData} {args : Args} {binds : List (Str × Value)} (h : bindArgs fd args = pure binds) : BindsMade fd args (fun _ => binds) [] := ⟨fun _ _ _ _ _ q => h ▸ wpAny_pure q⟩
/-- *args -/
theorem BindsMade.star {fd : FuncData} {args : Args} {vs : List Value} {binds : Value → List (Str × Value)} (hz : vs.length ≤ 1000000) (h : bindArgs fd args = (newTuple vs >>= fun t => pure (binds t))) : BindsMade fd args (fun N => binds (.ref N)) [tupO vs] := ⟨fun M A E Q s q => by
  rw [h]
  unfold newTuple
  exact wpAny_bind (wpAny_newObj_type (wpAny_pure q) (by show vs.toArray.size ≤ sizeLine; rw [List.size_toArray]; exact line_le (by omega)))⟩
/-- *args, **kwargs, no keyword given -/
theorem BindsMade.star2 {fd : FuncData} {args : Args} {vs : List Value} {binds : Value → Value → List (Str × Value)} (hz : vs.length ≤ 1000000)
    (h : bindArgs fd args = (newTuple vs >>= fun t => alloc { cls := .type "dict", data := .dict #[] } >>= fun d => pure (binds t (.ref d)))) : BindsMade fd args (fun N => binds (.ref N) (.ref (N + 1))) [tupO vs, dictOf [] 0] := ⟨fun M A E Q s q => by
  rw [h]
  unfold newTuple
  refine wpAny_bind (wpAny_newObj_type (wpAny_bind (wpAny_alloc (wpAny_pure ?_))) (by show vs.toArray.size ≤ sizeLine; rw [List.size_toArray]; exact line_le (by omega)))
  have e : (s.heap.push (tupO vs)).objs.size = s.heap.objs.size + 1 := Heap.size_push _ _
  show Q (binds (.ref s.heap.objs.size) (.ref (s.heap.push (tupO vs)).objs.size)) _
  rw [e]
  exact q⟩
/-- **kwargs, no keyword given -/
theorem BindsMade.kws {fd : FuncData} {args : Args} {binds : Value → List (Str × Value)}
    (h : bindArgs fd args = (alloc { cls := .type "dict", data := .dict #[] } >>= fun d => pure (binds (.ref d)))) : BindsMade fd args (fun N => binds (.ref N)) [dictOf [] 0] := ⟨fun M A E Q s q => by
  rw [h]
  exact wpAny_bind (wpAny_alloc (wpAny_pure q))⟩
-- part F19
/-! the groups of a plan, the infos that stand for them -/
noncomputable def G.keep (g : G) : Bool := !decide (g.kind ∈ [112, 80])
noncomputable def cnt (gs : List G) : Nat := (gs.filter G.keep).length
noncomputable def specOf : Nat → List G → List (Nat × Nat × Bool × Nat)
  | _, [] => []
  | n, g :: r => (g.kind, g.size, g.little, n) :: specOf (if g.kind ∈ [112, 80] then n else n + 1) r
noncomputable def G.Ok (g : G) : Prop := FG g.kind g.size g.num g.val g.back
noncomputable def vals (gs : List G) : List PV := (gs.filter G.keep).map G.val
noncomputable def encG (low : Bool) (B : List Bool) (g : G) : List Bool :=
  B ++ (if g.kind ∈ [112, 80] then List.replicate g.size (decide (g.kind = 80)) else encB low g.kind g.little B.length (bitsN g.size g.num))
noncomputable def encAll (low : Bool) (B : List Bool) (gs : List G) : List Bool := gs.foldl (encG low) B
theorem G.keep_iff {g : G} : g.keep = true ↔ ¬ g.kind ∈ [112, 80] := by unfold G.keep; simp
theorem cnt_take {gs : List G} {i : Nat} {g : G} (h : gs[i]? = some g) : cnt (gs.take (i + 1)) = cnt (gs.take i) + (if g.kind ∈ [112, 80] then 0 else 1) := by
  unfold cnt
  rw [List.take_add_one, h, List.filter_append, List.length_append]
  congr 1
  show (List.filter G.keep [g]).length = _
  by_cases hk : g.kind ∈ [112, 80]
  · rw [if_pos hk, List.filter_cons_of_neg (fun h => (G.keep_iff.mp h) hk)]; rfl
  · rw [if_neg hk, List.filter_cons_of_pos (G.keep_iff.mpr hk)]; rfl
theorem specOf_at : ∀ (gs : List G) (n i : Nat) (g : G), gs[i]? = some g → (specOf n gs)[i]? = some (g.kind, g.size, g.little, n + cnt (gs.take i))
  | [], _, _, _, h => nomatch h
  | g :: r, n, 0, g', h => by
    obtain rfl : g = g' := by simpa using h
    rfl
  | g :: r, n, i + 1, g', h => by
    have h' : r[i]? = some g' := by simpa using h
    show (specOf _ r)[i]? = _
    rw [specOf_at r _ i g' h']
    congr 4
    show _ = n + ((List.filter G.keep (g :: r.take i)).length)
    by_cases hk : g.kind ∈ [112, 80]
    · rw [if_pos hk, List.filter_cons_of_neg (fun h => (G.keep_iff.mp h) hk)]; rfl
    · rw [if_neg hk, List.filter_cons_of_pos (G.keep_iff.mpr hk), List.length_cons]; unfold cnt; omega
theorem specOf_len : ∀ (gs : List G) (n : Nat), (specOf n gs).length = gs.length
  | [], _ => rfl
  | g :: r, n => by show (specOf _ r).length + 1 = _; rw [specOf_len r]; rfl
theorem val_at {gs : List G} {vs : List Value} (h : PVs (vals gs) vs) {i : Nat} {g : G} (hg : gs[i]? = some g) (hk : ¬ g.kind ∈ [112, 80]) : ∃ v, vs[cnt (gs.take i)]? = some v ∧ g.val.Is v := by
  have e : (vals gs)[cnt (gs.take i)]? = some g.val := by
    have e2 : gs = gs.take i ++ (g :: gs.drop (i + 1)) := by
      have hi := (List.getElem?_eq_some_iff.mp hg)
      obtain ⟨hlt, he⟩ := hi
      rw [← he, ← List.drop_eq_getElem_cons hlt, List.take_append_drop]
    have e3 : vals gs = vals (gs.take i) ++ vals (g :: gs.drop (i + 1)) := by
      conv => lhs; rw [e2]
      unfold vals; rw [List.filter_append, List.map_append]
    have e4 : vals (g :: gs.drop (i + 1)) = g.val :: vals (gs.drop (i + 1)) := by
      unfold vals; rw [List.filter_cons_of_pos (G.keep_iff.mpr hk), List.map_cons]
    have e5 : (vals (gs.take i)).length = cnt (gs.take i) := by unfold vals cnt; rw [List.length_map]
    rw [e3, e4, List.getElem?_append_right (by omega), e5, Nat.sub_self]; rfl
  have hl := h.len
  have hlt := (List.getElem?_eq_some_iff.mp e).1
  have e6 : vs[cnt (gs.take i)]? = some (vs[cnt (gs.take i)]'(by omega)) := List.getElem?_eq_getElem (by omega)
  obtain ⟨p, hp, hpv⟩ := h.at _ _ e6
  rw [e] at hp
  cases hp
  exact ⟨_, e6, hpv⟩
theorem encG_len (low : Bool) (B : List Bool) (g : G) : (encG low B g).length = B.length + g.size := by
  unfold encG
  rw [List.length_append]
  split
  · rw [List.length_replicate]
  · rw [encB_len, bitsN_len]
noncomputable def sizes (gs : List G) : Nat := (gs.map G.size).sum
theorem encAll_len (low : Bool) : ∀ (gs : List G) (B : List Bool), (encAll low B gs).length = B.length + sizes gs
  | [], B => rfl
  | g :: r, B => by
    show (encAll low (encG low B g) r).length = _
    rw [encAll_len low r, encG_len]; unfold sizes; rw [List.map_cons, List.sum_cons]; omega
theorem encAll_take {low : Bool} {B : List Bool} {gs : List G} {i : Nat} {g : G} (h : gs[i]? = some g) : encAll low B (gs.take (i + 1)) = encG low (encAll low B (gs.take i)) g := by
  unfold encAll
  rw [List.take_add_one, h]; simp
theorem sizes_take (gs : List G) (i : Nat) : sizes (gs.take i) ≤ sizes gs := by
  conv => rhs; rw [← List.take_append_drop i gs]
  unfold sizes; rw [List.map_append, List.sum_append]; omega
/-- the info at a place -/
theorem info_at {is : List II} {gs : List G} (hS : is.map II.spec = specOf 0 gs) {i : Nat} {j : II} (hj : is[i]? = some j) : ∃ g, gs[i]? = some g ∧ j.kd = g.kind ∧ j.size = g.size ∧ j.little = g.little ∧ j.idx = cnt (gs.take i) := by
  have hlt := (List.getElem?_eq_some_iff.mp hj).1
  have hl := congrArg List.length hS
  rw [List.length_map, specOf_len] at hl
  obtain ⟨g, hg⟩ : ∃ g, gs[i]? = some g := ⟨gs[i]'(by omega), List.getElem?_eq_getElem (by omega)⟩
  have e : (is.map II.spec)[i]? = some j.spec := by rw [List.getElem?_map, hj]; rfl
  rw [hS, specOf_at gs 0 i g hg] at e
  injection e with e
  have e1 := congrArg (·.1) e
  have e2 := congrArg (·.2.1) e
  have e3 := congrArg (·.2.2.1) e
  have e4 := congrArg (·.2.2.2) e
  exact ⟨g, hg, e1.symm, e2.symm, e3.symm, by rw [Nat.zero_add] at e4; exact e4.symm⟩
noncomputable def ledIn (Z : Led) (hp : Heap) : Prop := ∀ p ∈ Z, hp.get? p.1 = some p.2
theorem unB_pad {bits : List Bool} {k : Nat} (h8 : (bits.length + k) % 8 = 0) (hk : k < 8) : unB (bits ++ List.replicate k false) = unB bits := by
  unfold unB
  rw [List.length_append, List.length_replicate, valb_append, valb_zeros, List.length_replicate]
  have e1 : (bits.length + k + 7) / 8 = (bits.length + 7) / 8 := by omega
  rw [e1]
  have e2 : 8 * ((bits.length + 7) / 8) - (bits.length + k) = 0 := by omega
  have e3 : 8 * ((bits.length + 7) / 8) - bits.length = k := by omega
  rw [e2, e3, Nat.pow_zero, Nat.mul_one]
  simp only [Nat.add_zero]
set_option maxHeartbeats 1000000 in
theorem packany_sp {w : World} {x va : Addr} {is : List II} {low : Bool} {Z : Led} {gs : List G} {vs : List Value} (hZ : CfL x is low Z) (hS : is.map II.spec = specOf 0 gs) (hG : ∀ g ∈ gs, g.Ok) (hv : PVs (vals gs) vs) (hsz : sizes gs ≤ 500) (hgl : gs.length ≤ 1000) :
    Sp w 6 (call (.ref 431) [.ref x, .ref va]) [] (fun hp => ledIn Z hp ∧ hp.get? va = some (tupO vs)) (fun v P' => ∃ t, v = .bytes (unB (encAll low [] gs)).toArray t ∧ P' = []) NoX := by
  refine Sp.def (F := fn_packany) (n := 5) (vals := [_, _]) (packany_is w) rfl rfl (fun s A p => BindsTo.of_eq (by kernel_rfl)) (by show 2 ≤ 5; decide) (V₀ := [some (.ref x), some (.ref va), none, none, none]) rfl (fun C hw hn hb => W.shrink ?_)
  have ok := (packany_is w).ok
  subst hw
  obtain ⟨hb, hva⟩ := hb
  obtain ⟨dx, od, l, n, L, hI, hO, rfl⟩ := hZ.ex
  obtain ⟨ko, kb, ka, hD⟩ := hO.ex
  have hc := cf_ok C.w
  have hx : C.h₀.get? x = some (instObj 507 dx) := hb _ (.head _)
  have hdx : C.h₀.get? dx = some od := hb _ (.tail _ (.head _))
  have hl : C.h₀.get? l = some (listO (irefs is) n) := hb _ (.tail _ (.tail _ (.head _)))
  have hlen : is.length = gs.length := by have := congrArg List.length hS; rwa [List.length_map, specOf_len] at this
  walk_at "ww"
  refine w_getOwn (.inr hx) (.inr hdx) hD (hc.hg _) hc.hh (hc.fi cInfos (by simp)) (val := .ref l) (by kernel_rfl) rfl ?_
  refine w_iter_list (.inr hl) (.listO _ _) fun it o hit => ?_
  refine loop_list hit (.listO (irefs is) n) (fun i V H => H = [] ∧ ∃ t oi, V = [some (.ref x), some (.ref va), some (.str (S (chs (encAll low [] (gs.take i)))) t), oi, none]) (fun _ _ _ _ => .inr hl) ⟨rfl, _, _, rfl⟩ ?_ ?_
  · rintro i y V H o hy ⟨rfl, t, oi, rfl⟩
    obtain ⟨j, hj, rfl⟩ : ∃ j, is[i]? = some j ∧ y = .ref j.x := by
      unfold irefs at hy
      rw [List.getElem?_map] at hy
      cases e : is[i]? with
      | none => rw [e] at hy; cases hy
      | some x => rw [e] at hy; cases hy; exact ⟨x, rfl, rfl⟩
    obtain ⟨hjo, hm1, hm2⟩ := hI.at j (List.mem_of_getElem? hj)
    obtain ⟨g, hg, e1, e2, e3, e4⟩ := info_at hS hj
    have hgo : g.Ok := hG g (List.mem_of_getElem? hg)
    have hj1 : C.h₀.get? j.x = some (instObj (clsK j.kd) j.dx) := hb _ (.tail _ (.tail _ (.tail _ hm1)))
    have hj2 : C.h₀.get? j.dx = some j.od := hb _ (.tail _ (.tail _ (.tail _ hm2)))
    have hBl : (encAll low [] (gs.take i)).length ≤ 500 := by rw [encAll_len]; have := sizes_take gs i; simp; omega
    obtain ⟨B, hB⟩ : ∃ B, B = encAll low [] (gs.take i) := ⟨_, rfl⟩
    have hE : encAll low [] (gs.take (i + 1)) = encG low B g := by rw [hB]; exact encAll_take hg
    rw [← hB] at hBl ⊢
    have hgs : g.size ≤ 1000 := by
      have : ∀ {kd size num : Nat} {val back : PV}, FG kd size num val back → size ≤ 24 := by
        intro kd size num val back hg
        cases hg <;> omega
      have := this hgo
      omega
    walk_at "ww"
    refine w_If ?_
    walk_at "ww"
    ktf_call 310
    walk_at "ww"
    refine w_isPad hjo (.inr hj1) (.inr hj2) ?_
    walk_at "ww"
    refine ⟨fun hp => ?_, fun hp => ?_⟩
    · have hk : j.kd ∈ [112, 80] := of_decide_eq_true hp
      walk_at "ww"
      refine w_packM hjo (.inr hj1) (.inr hj2) ?_
      walk_at "ww"
      refine w_packP (by omega) hjo (.inr hj1) (.inr hj2) hk (by omega) fun t1 => ?_
      walk_at "ww"
      refine w_iadd_S (by rw [chs_len, chs_len, List.length_replicate]; omega) fun t2 => ?_
      rw [← chs_append]
      walk_at "ww"
      refine ⟨[], .rfl, rfl, t2, some (.ref j.x), ?_⟩
      rw [hE]
      unfold encG
      rw [e1] at hk
      rw [if_pos hk, e1, e2]
    · have hk : ¬ j.kd ∈ [112, 80] := of_decide_eq_false hp
      walk_at "ww"
      refine w_methInst (.inr hx) (.inr hdx) hD (hc.hg _) (by kernel_rfl) (by kernel_rfl) (by kernel_rfl) (f := 424) ?_
      walk_at "ww"
      obtain ⟨kv, hDj, hKj, _⟩ := hjo.ex
      obtain ⟨ti, hnm⟩ := hKj.nm hk
      refine w_getOwn (.inr hj1) (.inr hj2) hDj ((cls_ok C.w j.kd hjo.kd).hg _) (cls_ok C.w j.kd hjo.kd).hh ((cls_ok C.w j.kd hjo.kd).fi aName (by simp)) hnm rfl ?_
      obtain ⟨v, hvv, hvi⟩ := val_at hv hg (by rw [← e1]; exact hk)
      have hvl := hv.len
      have hlt := (List.getElem?_eq_some_iff.mp hvv).1
      have hvl2 : (vals gs).length ≤ gs.length := by unfold vals; rw [List.length_map]; exact List.length_filter_le _ _
      refine w_itup (.inr hva) (i := j.idx) rfl (by rw [e4]; exact hvv) (by rw [e4]; omega) ?_
      walk_at "ww"
      have hgo' : FG j.kd j.size g.num g.val g.back := by rw [e1, e2]; exact hgo
      refine w_spz (packval_sp hO hjo hgo' hk hvi (by omega)) (by omega) (fun hp k => ⟨⟨k _ _ (.inr hx), k _ _ (.inr hdx)⟩, k _ _ (.inr hj1), k _ _ (.inr hj2)⟩) (fun _ _ ⟨_, _, e⟩ => e) ?_
      rintro v' P' ⟨t2, rfl, _⟩
      walk_at "ww"
      refine ⟨[], .rfl, rfl, t2, some (.ref j.x), ?_⟩
      rw [hE]
      unfold encG
      rw [e1] at hk
      rw [if_neg hk, e1, e2, e3]
  · rintro V H ⟨rfl, t, oi, rfl⟩
    rw [show (irefs is).length = gs.length by unfold irefs; rw [List.length_map, hlen], List.take_length]
    have hBl : (encAll low [] gs).length ≤ 500 := by rw [encAll_len]; simp; omega
    generalize encAll low [] gs = B at hBl ⊢
    walk_at "ww"
    refine w_len_S (by rw [chs_len]; omega) fun t1 => ?_
    rw [chs_len]
    walk_at "ww"
    refine w_mod_int (by decide) fun t2 => ?_
    walk_at "ww"
    refine w_IfJ (fun V H => H = [] ∧ ∃ B' t o1 o2, V = [some (.ref x), some (.ref va), some (.str (S (chs B')) t), o1, o2] ∧ B'.length ≤ 510 ∧ unB B' = unB B) ?_ ?_
    · walk_at "ww"
      refine ⟨fun hc => ?_, fun hc => ?_⟩
      · have hne : B.length % 8 ≠ 0 := by
          intro e
          have : (B.length : Int) % 8 = 0 := by omega
          rw [this] at hc; exact absurd hc (by decide)
        walk_at "ww"
        refine w_rmul_S (by decide) (by omega) (by simp; omega) fun t3 => ?_
        have e8 : ((8 : Int) - (B.length : Int) % 8).toNat = 8 - B.length % 8 := by omega
        rw [e8]
        have e9 : (List.replicate (8 - B.length % 8) [48]).flatten = chs (List.replicate (8 - B.length % 8) false) := rep1 _ false
        rw [e9]
        refine w_iadd_S (by rw [chs_len, chs_len, List.length_replicate]; omega) fun t4 => ?_
        rw [← chs_append]
        walk_at "ww"
        exact ⟨rfl, rfl, _, t4, _, _, rfl, by rw [List.length_append, List.length_replicate]; omega, unB_pad (by omega) (by omega)⟩
      · walk_at "ww"
        exact ⟨rfl, rfl, _, t, _, _, rfl, by omega, rfl⟩
    · rintro V H ⟨rfl, B', t, o1, o2, rfl, hB', hu⟩
      walk_at "ww"
      ktf_call 404
      walk_at "ww"
      refine w_len_S (by rw [chs_len]; omega) fun t1 => ?_
      rw [chs_len]
      walk_at "ww"
      refine w_spz (unpackba_sp rfl (by omega)) (by omega) (fun _ _ => trivial) (fun _ _ ⟨_, _, e⟩ => e) ?_
      rintro v' P' ⟨t2, rfl, _⟩
      walk_at "ww"
      refine w_bytes_bytes ?_
      walk_at "ww"
      exact ⟨[], .rfl, t2, by rw [hu], rfl⟩
-- part Ru16
theorem dict_iter : typeLookup (.type "dict") "__iter__" = pure (some (.builtin "dict.__iter__")) := by rw [typeLookup_type, builtinLookup_eq_fast]; kernel_rfl
theorem dict_sub : isSubtype (.type "dict") (.type "dict") = pure true := by rw [isSubtype_type]; kernel_rfl
section
variable {M : Model} {A : Around} {E : Value → Shared → Prop} {s : Shared}
theorem merge_empty {d m : Addr} {Q : Unit → Shared → Prop} (hd : s.heap.get? d = some (dictOf [] 0)) (hm : s.heap.get? m = some (dictOf [] 0)) (hs : (m == sysModules) = false) (h : Q () s) : wpAny M A (mergeMapping d (.ref m) true) Q E s := by
  have hT : s.TypeIs (.ref m) "dict" := ⟨_, hm, rfl⟩
  unfold mergeMapping
  refine wpAny_bind (m := isInstance (.ref m) (.type "dict")) (wpAny_isInstance hT dict_sub ?_)
  rw [if_pos rfl]
  refine wpAny_bind (wpAny_specialOf hT dict_iter (wpAny_bind (wpAny_pure ?_)))
  rw [show ((some (Value.builtin "dict.__iter__") : Option Value) == some (Value.builtin "dict.__iter__")) = true by decide]
  dsimp only
  rw [hs, if_neg (by decide)]
  refine wpAny_bind (wpAny_dictEntries hd rfl ?_)
  rw [if_pos (by decide)]
  refine wpAny_bind (wpAny_dictEntries hm rfl ?_)
  have e0 : ∀ (f : DictEntry → PUnit → Sem (ForInStep PUnit)), (forIn (#[] : Array DictEntry) PUnit.unit f : Sem PUnit) = pure PUnit.unit := fun f => by simp
  rw [e0]
  refine wpAny_bind (wpAny_pure ?_)
  refine wpAny_bind (wpAny_dictEntries hm rfl ?_)
  refine wpAny_bind (wpAny_dictEpoch hm rfl ?_)
  have e1 : ∀ (f : Nat → PUnit → Sem (ForInStep PUnit)), (forIn (List.range (([] : List DictEntry).toArray).size) PUnit.unit f : Sem PUnit) = pure PUnit.unit := fun f => by simp
  rw [e1]
  exact wpAny_bind (wpAny_pure (wpAny_pure h))
theorem keywords_empty {d : Addr} {f : Value} {Q : List (Str × Value) → Shared → Prop} (hd : s.heap.get? d = some (dictOf [] 0)) (h : Q [] s) : wpAny M A (keywordsIn f d) Q E s := by
  unfold keywordsIn
  refine wpAny_bind (wpAny_dictEntries hd rfl ?_)
  have e0 : ∀ (g : DictEntry → List (Str × Value) → Sem (ForInStep (List (Str × Value)))), (forIn (([] : List DictEntry).toArray) [] g : Sem (List (Str × Value))) = pure [] := fun g => by simp
  rw [e0]
  exact wpAny_bind (wpAny_pure (wpAny_pure h))
end
section
variable {Fx : Fn} {C : Cx Fx} {E : Value → Vals → Led → Prop} {V : Vals} {H : Led} {Q : Value → Vals → Led → Prop}
/-- f(*args) -/
theorem w_lone {f : Value} {e : Expr} {p pos : Pos} {Q : Args → Vals → Led → Prop}
    (h : W C E (eval e C.env) V H (fun x V1 H1 => ∃ a vs, x = .ref a ∧ Has C H1 a (tupO vs) ∧ vs.length ≤ 1000000 ∧ Q ⟨vs, []⟩ V1 H1))
    (he : backTo pos (starEach [.Starred e p] C.env) = [(true, (do let v ← eval e C.env; standAt pos; Pure.pure v))] := by kernel_rfl) : W C E (evalArgs f true (backTo pos (starEach [.Starred e p] C.env)) (backToKw pos (keywordEach [] C.env))) V H Q := .mk fun s v => by
  rw [he]
  refine ks_lone (wpAny_mono (h.run s v) (fun x s1 ⟨V1, H1, v1, a, vs, hx, ha, hz, k⟩ => ?_) fun _ _ x => x)
  subst hx
  have := star_tup (E := E) (Q := fun r V' H' => r = vs ∧ V' = V1 ∧ H' = H1) ha hz ⟨rfl, rfl, rfl⟩ v1
  unfold StarOf at this ⊢
  refine wpAny_mono this (fun b s2 ⟨hb, h2⟩ => ⟨hb, wpAny_mono h2 (fun r s3 ⟨V', H', v3, e1, e2, e3⟩ => ?_) fun _ _ x => x⟩) fun _ _ x => x
  subst e1 e2 e3
  exact ⟨_, _, v3, k⟩
theorem w_cwLone {pos : Pos} {f : Value} {first : List Value} {e : Expr} {p : Pos}
    (h : W C E (eval e C.env) V H (fun x V1 H1 => ∃ a vs, x = .ref a ∧ Has C H1 a (tupO vs) ∧ vs.length ≤ 1000000 ∧ Kept C H1 f ∧ W C E (call f (first ++ vs)) V1 H1 Q))
    (he : backTo pos (starEach [.Starred e p] C.env) = [(true, (do let v ← eval e C.env; standAt pos; Pure.pure v))] := by kernel_rfl) : W C E (callWith pos f first (backTo pos (starEach [.Starred e p] C.env)) (backToKw pos (keywordEach [] C.env))) V H Q := by
  refine w_callWith_star (by rw [he]; rfl) (w_lone (he := he) (h.mono fun x V1 H1 ⟨a, vs, e1, e2, e3, e4, e5⟩ => ⟨a, vs, e1, e2, e3, e4, e5⟩))
theorem backTo_nil (pos : Pos) (env : Env) : backToKw pos (keywordEach [] env) = [] := rfl
theorem w_onRaiseQ {α : Type} {m : Sem α} {k : Value → Sem Unit} {Q : α → Vals → Led → Prop} (h : W C NoE m V H Q) : W C E (m.onRaise k) V H Q := .mk fun s v => wpAny_onRaise (wpAny_mono (h.run s v) (fun _ _ x => x) fun _ _ ⟨_, _, _, x⟩ => x.elim)
theorem w_tryQ {α : Type} {m : Sem α} {k : Value → Sem α} {Q : α → Vals → Led → Prop} (h : W C NoE m V H Q) : W C E (m.tryCatch k) V H Q := .mk fun s v => wpAny_tryCatch (wpAny_mono (h.run s v) (fun _ _ x => x) fun _ _ ⟨_, _, _, x⟩ => x.elim)
/-- f(x, .., **k), k empty -/
theorem w_evalArgsKW {f : Value} {x k : Sem Value} {rest : List (Bool × Sem Value)} {Q : Args → Vals → Led → Prop}
    (h : W C E (spliced ((false, x) :: rest)) V H (fun vs V1 H1 => ∀ d, W C E k V1 ((d, dictOf [] 0) :: H1) (fun m V2 H2 => ∃ a, m = .ref a ∧ (a == sysModules) = false ∧ Has C H2 a (dictOf [] 0) ∧ Has C H2 d (dictOf [] 0) ∧ Q ⟨vs, []⟩ V2 H2))) :
    W C E (evalArgs f true ((false, x) :: rest) [(none, k)]) V H Q := by
  unfold evalArgs
  show W C E (spliced ((false, x) :: rest) >>= _) V H Q
  refine w_bind (h.mono fun vs V1 H1 q => w_holding ?_)
  rw [if_neg (by simp)]
  refine w_bind ?_
  delta mergedKeywords
  refine w_bind (w_alloc rfl fun d => w_bind (w_holding ?_))
  dsimp only
  refine w_bind ?_
  rw [List.forIn_cons]
  refine w_bind ?_
  dsimp only
  rw [if_pos (show ([] : List (Str × Sem Value)).isEmpty = true from rfl)]
  refine w_bind (w_pure (w_bind ?_))
  refine (q d).mono fun m V2 H2 ⟨a, e1, hs, ha, hd, hq⟩ => ?_
  subst e1
  refine w_bind (w_onRaiseQ (w_holding (w_tryQ (w_onRaiseQ (.mk fun s v => merge_empty (hd.at v) (ha.at v) hs ⟨V2, H2, v, ?_⟩)))))
  refine w_pure ?_
  dsimp only
  rw [List.forIn_nil]
  refine w_pure ?_
  rw [if_pos (show ([] : List (Str × Sem Value)).isEmpty = true from rfl)]
  refine w_pure (w_pure ?_)
  refine w_bind (w_pure ?_)
  refine w_bind (w_holding (.mk fun s v => keywords_empty (hd.at v) ⟨V2, H2, v, ?_⟩))
  exact w_pure hq
/-- o.m(.., *args, **kw): the bound method is made -/
theorem w_MethodCallS {o : Expr} {name : Str} {apos pos : Pos} {args : List Expr} {kws : List Keyword} {Q : Value → Vals → Led → Prop}
    (h : W C E (eval o C.env) V H (fun ov V1 H1 => W C E (getAttr ov name true) V1 H1 (fun f V2 H2 => W C E (callWith pos f [] (backTo pos (starEach args C.env)) (backToKw pos (keywordEach kws C.env))) V2 H2 Q)))
    (he : eval (.Call (.Attribute o name apos) args kws pos) C.env = (do
      let ov ← eval o C.env
      standAt apos.atName
      let (f, first) ← holding [ov] (do let v ← getAttr ov name true; Pure.pure (v, []))
      callWith pos f first (backTo pos (starEach args C.env)) (backToKw pos (keywordEach kws C.env))) := by kernel_rfl) :
    W C E (eval (.Call (.Attribute o name apos) args kws pos) C.env) V H Q := by
  rw [he]
  exact w_bind (h.mono fun _ _ _ q => w_bind (w_standAt (w_bind (w_holding (w_bind (q.mono fun f V2 H2 q => w_pure q))))))
theorem n_MethodCallS {o : Expr} {name : Str} {apos pos : Pos} {args : List Expr} {kws : List Keyword} {Q : Value → Vals → Led → Prop}
    (h : W C NoE (eval o C.env) V H (fun ov V1 H1 => W C NoE (getAttr ov name true) V1 H1 (fun f V2 H2 => N C (callWith pos f [] (backTo pos (starEach args C.env)) (backToKw pos (keywordEach kws C.env))) V2 H2 Q)))
    (he : eval (.Call (.Attribute o name apos) args kws pos) C.env = (do
      let ov ← eval o C.env
      standAt apos.atName
      let (f, first) ← holding [ov] (do let v ← getAttr ov name true; Pure.pure (v, []))
      callWith pos f first (backTo pos (starEach args C.env)) (backToKw pos (keywordEach kws C.env))) := by kernel_rfl) :
    N C (eval (.Call (.Attribute o name apos) args kws pos) C.env) V H Q := by
  rw [he]
  exact n_then (h.mono fun _ _ _ q => n_then (w_standAt (n_then (w_holding (w_bind (q.mono fun f V2 H2 q => w_pure q))))))
end
-- part F20
/-! pack -/
theorem nArgs_eq {is : List II} {gs : List G} (hS : is.map II.spec = specOf 0 gs) : nArgs is = (vals gs).length := by
  have h1 : ∀ (gs : List G) (n : Nat), (specOf n gs).map (·.1) = gs.map G.kind := by
    intro gs
    induction gs with
    | nil => intro n; rfl
    | cons g r ih => intro n; show _ :: _ = _ :: _; rw [ih]
  have h2 : is.map II.kd = gs.map G.kind := by
    rw [← h1 gs 0, ← hS, List.map_map]; rfl
  have h3 : ∀ l : List Nat, (l.filter fun k => !decide (k ∈ [112, 80])).length = l.countP (fun k => !decide (k ∈ [112, 80])) := fun l => by rw [List.countP_eq_length_filter]
  have h4 : nArgs is = ((is.map II.kd).filter fun k => !decide (k ∈ [112, 80])).length := by
    unfold nArgs; rw [List.filter_map, List.length_map]; rfl
  have h5 : (vals gs).length = ((gs.map G.kind).filter fun k => !decide (k ∈ [112, 80])).length := by
    unfold vals; rw [List.length_map, List.filter_map, List.length_map]; rfl
  rw [h4, h5, h2]
theorem bitsOf_eq {is : List II} {gs : List G} (hS : is.map II.spec = specOf 0 gs) : bitsOf is = (sizes gs : Nat) := by
  have h1 : ∀ (gs : List G) (n : Nat), (specOf n gs).map (·.2.1) = gs.map G.size := by
    intro gs
    induction gs with
    | nil => intro n; rfl
    | cons g r ih => intro n; show _ :: _ = _ :: _; rw [ih]
  have h2 : is.map II.size = gs.map G.size := by
    rw [← h1 gs 0, ← hS, List.map_map]; rfl
  have h3 : ∀ l : List Nat, (l.map fun k : Nat => (k : Int)).sum = ((l.sum : Nat) : Int) := by
    intro l
    induction l with
    | nil => rfl
    | cons a r ih => rw [List.map_cons, List.sum_cons, List.sum_cons, ih]; omega
  unfold bitsOf sizes
  rw [← h2, ← h3, List.map_map]; rfl
theorem cf_pack_sp {w : World} {x : Addr} {is : List II} {low : Bool} {Z : Led} {gs : List G} {vs : List Value} (hZ : CfL x is low Z) (hS : is.map II.spec = specOf 0 gs) (hG : ∀ g ∈ gs, g.Ok) (hv : PVs (vals gs) vs) (hsz : sizes gs ≤ 500) (hgl : gs.length ≤ 1000) :
    SpC w 7 (.ref 483) ⟨.ref x :: vs, []⟩ [] (fun hp => ledIn Z hp) (fun v P' => ∃ t, v = .bytes (unB (encAll low [] gs)).toArray t ∧ P' = []) NoX := by
  have hvl := hv.len
  have hvl2 : (vals gs).length ≤ gs.length := by unfold vals; rw [List.length_map]; exact List.length_filter_le _ _
  refine SpC.defM (F := fn_cf_pack) (n := 6) (vals := fun N => [.ref x, .ref N]) (k := 2) (os := [tupO vs]) (V₀ := fun N => [some (.ref x), some (.ref N)]) (cf_pack_is w) rfl rfl
    (BindsMade.star (binds := fun t => [(Str.ofString "self", .ref x), (Str.ofString "args", t)]) (by omega) (by cases vs <;> kernel_rfl)) (fun o ho => by rw [List.mem_singleton.mp ho]; rfl) (fun _ => rfl) (by show 2 ≤ 2; decide) (fun _ => rfl) (fun C N hN hw hn hb => ?_)
  have ok := (cf_pack_is w).ok
  subst hw
  obtain ⟨dx, od, l, n, L, hI, hO, rfl⟩ := id hZ.ex
  obtain ⟨ko, kb, ka, hD⟩ := hO.ex
  have hc := cf_ok C.w
  have hx : C.h₀.get? x = some (instObj 507 dx) := hb _ (.head _)
  have hdx : C.h₀.get? dx = some od := hb _ (.tail _ (.head _))
  dsimp only [ledOf, List.cons_append, List.nil_append]
  walk_at "ww"
  refine w_If ?_
  walk_at "ww"
  refine w_len_tup (.inl (.head _)) (by omega) fun t1 => ?_
  walk_at "ww"
  refine w_getOwn (.inr hx) (.inr hdx) hD (hc.hg _) hc.hh (hc.fi cArgs (by simp)) (val := .int (nArgs is) ka) (by kernel_rfl) rfl ?_
  walk_at "ww"
  refine ⟨fun h => ?_, fun _ => ?_⟩
  · have := of_decide_eq_true h
    rw [nArgs_eq hS] at this; omega
  walk_at "ww"
  refine w_methInst (.inr hx) (.inr hdx) hD (hc.hg _) (by kernel_rfl) (by kernel_rfl) (by kernel_rfl) (f := 431) ?_
  walk_at "ww"
  refine w_spz (packany_sp hZ hS hG hv hsz hgl) (by omega) (fun hp k => ⟨fun p hp' => k _ _ (.inr (hb p hp')), k _ _ (.inl (.head _))⟩) (fun _ _ ⟨_, _, e⟩ => e) ?_
  rintro v P' ⟨t2, rfl, _⟩
  walk_at "ww"
  exact ⟨[], .nil, t2, rfl, rfl⟩
/-- what a format says of its groups -/
structure FmtOk (fs : List Fi) (gs : List G) : Prop where
  ok : ∀ f ∈ fs, f.Ok
  ne : fs ≠ []
  len : (fmtL fs).length ≤ 900
  spec : specGo false 0 fs = specOf 0 gs
  grp : ∀ g ∈ gs, g.Ok
  size : sizes gs ≤ 500
  gl : gs.length ≤ 1000
theorem m_pack_sp {w : World} {fs : List Fi} {gs : List G} {tail : Option Bool} {t1 : Tok} {vs : List Value} (hF : FmtOk fs gs) (hv : PVs (vals gs) vs) :
    Sp w 9 (call (.ref 516) (.str (S (fmtL fs ++ tailL tail)) t1 :: vs)) [] (fun _ => True) (fun v P' => ∃ t, v = .bytes (unB (encAll (tail.getD false) [] gs)).toArray t ∧ P' = []) NoX := by
  have hvl := hv.len
  have hvl2 : (vals gs).length ≤ gs.length := by unfold vals; rw [List.length_map]; exact List.length_filter_le _ _
  have hgl := hF.gl
  refine SpC.sp (SpC.defM (F := fn_m_pack) (n := 8) (vals := fun N => [.str (S (fmtL fs ++ tailL tail)) t1, .ref N]) (k := 2) (os := [tupO vs]) (V₀ := fun N => [some (.str (S (fmtL fs ++ tailL tail)) t1), some (.ref N)]) (m_pack_is w) rfl rfl
    (BindsMade.star (binds := fun t => [(Str.ofString "fmt", .str (S (fmtL fs ++ tailL tail)) t1), (Str.ofString "args", t)]) (by omega) (by cases vs <;> kernel_rfl)) (fun o ho => by rw [List.mem_singleton.mp ho]; rfl) (fun _ => rfl) (by show 2 ≤ 2; decide) (fun _ => rfl) (fun C N hN hw hn hb => ?_))
  have ok := (m_pack_is w).ok
  subst hw
  dsimp only [ledOf, List.cons_append, List.nil_append]
  refine w_cons (w_Return_some (w_MethodCallS ?_))
  walk_at "ww"
  ktf_call 507
  walk_at "ww"
  refine w_newCf1 (by omega) hF.ok hF.ne hF.len fun x is Z hS hZ => ?_
  obtain ⟨dx, od, l, n, L, hI, hO, rfl⟩ := id hZ.ex
  obtain ⟨ko, kb, ka, hD⟩ := hO.ex
  have hc := cf_ok C.w
  walk_at "ww"
  refine w_bound (.inl (.head _)) (.inl (.tail _ (.head _))) hD (hc.hg _) hc.hh (by kernel_rfl) (by kernel_rfl) (by kernel_rfl) (by kernel_rfl) (by decide +kernel) (by kernel_rfl) (f := 483) fun q => ?_
  refine w_cwLone ?_
  walk_at "ww"
  refine ⟨N, vs, rfl, .inl (.tail _ (List.mem_append_right _ (.head _))), by omega, kept_bound (.head _) (by kernel_rfl), ?_⟩
  refine w_callM (P := []) (self := .ref x) (.head _) (cf_pack_sp hZ (hS.trans hF.spec) hF.grp hv hF.size hF.gl) (by omega) .rfl (fun hp k p hp' => k _ _ (.inl (.tail _ (List.mem_append_left _ hp')))) ?_ (fun _ _ x => x.elim)
  rintro v P' ⟨t2, rfl, rfl⟩
  walk_at "ww"
  exact ⟨[], .nil, t2, rfl, rfl⟩
/-! calcsize -/
theorem m_calc_sp {w : World} {fs : List Fi} {gs : List G} {tail : Option Bool} {t1 : Tok} (hF : FmtOk fs gs) :
    Sp w 9 (call (.ref 546) [.str (S (fmtL fs ++ tailL tail)) t1]) [] (fun _ => True) (fun v P' => ∃ t, v = .int (sizes gs : Nat) t ∧ P' = []) NoX := by
  refine Sp.def (F := fn_m_calc) (n := 8) (vals := [_]) (m_calc_is w) rfl rfl (fun s A p => BindsTo.of_eq (by kernel_rfl)) (by show 1 ≤ 1; decide) (V₀ := [some (.str (S (fmtL fs ++ tailL tail)) t1)]) rfl (fun C hw hn hb => W.shrink ?_)
  have ok := (m_calc_is w).ok
  subst hw
  walk_at "ww"
  ktf_call 507
  walk_at "ww"
  refine w_newCf1 (by omega) hF.ok hF.ne hF.len fun x is Z hS hZ => ?_
  obtain ⟨dx, od, l, n, L, hI, hO, rfl⟩ := id hZ.ex
  obtain ⟨ko, kb, ka, hD⟩ := hO.ex
  have hc := cf_ok C.w
  walk_at "ww"
  refine w_methInst (.inl (.head _)) (.inl (.tail _ (.head _))) hD (hc.hg _) (by kernel_rfl) (by kernel_rfl) (by kernel_rfl) (f := 452) ?_
  walk_at "ww"
  have hcalc : Sp C.w 1 (call (.ref 452) [.ref x]) [] (fun hp => hp.get? x = some (instObj 507 dx) ∧ hp.get? dx = some od) (fun v P' => v = .int (bitsOf is) kb ∧ P' = []) NoX := by
    refine Sp.def (F := fn_c_calc) (n := 0) (vals := [_]) (c_calc_is C.w) rfl rfl (fun s A p => BindsTo.of_eq (by kernel_rfl)) (by show 1 ≤ 1; decide) (V₀ := [some (.ref x)]) rfl (fun C' hw' hn' hb' => ?_)
    have ok := (c_calc_is C.w).ok
    have hc := cf_ok C'.w
    walk_at "ww"
    refine w_getOwn (.inr hb'.1) (.inr hb'.2) hD (hc.hg _) hc.hh (hc.fi cBits (by simp)) (val := .int (bitsOf is) kb) (by kernel_rfl) rfl ?_
    walk_at "ww"
    exact ⟨rfl, rfl⟩
  refine w_spz hcalc (by omega) (fun hp k => ⟨k _ _ (.inl (.head _)), k _ _ (.inl (.tail _ (.head _)))⟩) (fun _ _ ⟨_, e⟩ => e) ?_
  rintro v P' ⟨rfl, _⟩
  walk_at "ww"
  exact ⟨[], .nil, kb, intv (bitsOf_eq (hS.trans hF.spec)), rfl⟩
-- part Ru17
theorem boot_bytearray : bootBuiltins "bytearray" = some (.type "bytearray") := by decide +kernel
section
variable {Fx : Fn} {C : Cx Fx} {E : Value → Vals → Led → Prop} {V : Vals} {H : Led} {Q : Value → Vals → Led → Prop}
theorem w_dict_m {name : Str} {id : String} {d : Addr} {pl : Sem Bool} {Q : Value × List Value → Vals → Led → Prop} (slot : Slot "dict" name id) (ty : typeOf (.builtin id) = pure (.type "method_descriptor"))
    (hd : Has C H d (dictOf [] 0)) (h : Q (.builtin id, [.ref d]) V H) : W C E (getMethod (.ref d) name pl) V H Q := .mk fun s v =>
  getMethod_builtin ⟨_, hd.at v, rfl⟩ F.plainAttrs_dict slot ty (fun a e => by cases e; exact ⟨_, hd.at v, rfl⟩) ⟨V, H, v, h⟩
/-- d.get(k, x) of an empty dict -/
theorem w_dict_get {d : Addr} {k : Str} {t : Tok} {x : Value} (hd : Has C H d (dictOf [] 0)) (hs : (d == sysModules) = false) (h : Q x V H) : W C E (call (.builtin "dict.get") [.ref d, .str k t, x]) V H Q := .mk fun s v =>
  call_meetsIn F.slot_dict_get ⟨_, hd.at v, rfl⟩ F.entry_dict_get (F.args_dict_get_3 _ _ _) (meets_dict_get_default (PySem.strKind prog C.w) (k := k) d (by show Value.isStrOf k (.str k t) = true; simp [Value.isStrOf]) hs x) (by
    refine ⟨fun _ => none, ?_, ?_⟩
    · exact ⟨_, #[], 0, hd.at v, ⟨rfl, rfl, rfl⟩, rfl, fun e he => by simp at he, fun k => rfl⟩
    · exact ⟨V, H, v.toks _, h⟩)
theorem w_evalKW {pos kp : Pos} {f : Value} {e kx : Expr} {rest : List Expr} {Q : Args → Vals → Led → Prop}
    (h : W C E (spliced (backTo pos (starEach (e :: rest) C.env))) V H (fun vs V1 H1 => ∀ d, W C E (eval kx C.env) V1 ((d, dictOf [] 0) :: H1) (fun m V2 H2 => ∃ a, m = .ref a ∧ (a == sysModules) = false ∧ Has C H2 a (dictOf [] 0) ∧ Has C H2 d (dictOf [] 0) ∧ Q ⟨vs, []⟩ V2 H2)))
    (he : starEach (e :: rest) C.env = (false, eval e C.env) :: starEach rest C.env := by kernel_rfl) : W C E (evalArgs f true (backTo pos (starEach (e :: rest) C.env)) (backToKw pos (keywordEach [⟨none, kx, kp⟩] C.env))) V H Q := by
  rw [he] at h ⊢
  refine w_evalArgsKW (k := (do let v ← eval kx C.env; standAt pos; Pure.pure v)) (h.mono fun vs V1 H1 q d => ?_)
  exact w_bind ((q d).mono fun m V2 H2 x => w_bind (w_standAt (w_pure x)))
end
-- part F21
local macro_rules | `(tactic| boot_fact) => `(tactic| with_reducible exact boot_bytearray)
/-! bytearrays among the helpers -/
theorem bufferA_sp {w : World} {b : Addr} {bs : List UInt8} (hl : bs.length ≤ 1000) :
    Sp w 1 (call (.ref 225) [.ref b]) [] (fun hp => hp.get? b = some (baO bs)) (fun v P' => ∃ t, v = .bytes bs.toArray t ∧ P' = []) NoX := by
  refine Sp.def (F := fn_buffer) (n := 0) (vals := [_]) (buffer_is w) rfl rfl (fun s A p => BindsTo.of_eq (by kernel_rfl)) (by show 1 ≤ 2; decide) (V₀ := [some (.ref b), none]) rfl (fun C hw hn hb => ?_)
  have ok := (buffer_is w).ok
  walk_at "ww"
  refine w_typeof_ba (.inr hb) ?_
  walk_at "ww"
  refine w_If ?_
  walk_at "ww"
  refine ⟨(fun h => absurd h (by decide)), fun _ => ?_⟩
  walk_at "ww"
  refine w_If ?_
  walk_at "ww"
  refine ⟨fun _ => ?_, (fun h => absurd h (by decide))⟩
  walk_at "ww"
  refine w_bytes_ba (.inr hb) (by omega) fun t => ?_
  walk_at "ww"
  exact ⟨_, rfl, rfl⟩
theorem b2aA_sp {w : World} {b : Addr} {bs : List UInt8} (hl : bs.length ≤ 1000) :
    Sp w 2 (call (.ref 234) [.ref b]) [] (fun hp => hp.get? b = some (baO bs)) (fun v P' => ∃ t, v = .bytes (hexB (hexDs bs)).toArray t ∧ P' = []) NoX := by
  refine Sp.def (F := fn_b2a) (n := 1) (vals := [.ref b, .ref 226, .int 1 685]) (b2a_is w) rfl rfl (fun s A p => binds_K (T := 227) (o := tupO [.ref 226, .int 1 685]) p.kin rfl (by kernel_rfl) rfl rfl rfl) (by show 3 ≤ 4; decide) (V₀ := [some (.ref b), some (.ref 226), some (.int 1 _), none]) rfl (fun C hw hn hb => ?_)
  have ok := (b2a_is w).ok
  walk_at "ww"
  ktf_call 225
  walk_at "ww"
  refine w_spz (bufferA_sp hl) (by omega) (fun hp k => k _ _ (.inr hb)) (fun _ _ ⟨_, _, e⟩ => e) ?_
  rintro v P' ⟨t1, rfl, _⟩
  walk_at "ww"
  refine w_If ?_
  walk_at "ww"
  refine ⟨(fun h => absurd h (by decide)), fun _ => ?_⟩
  walk_at "ww"
  refine ⟨(fun h => absurd h (by decide)), fun _ => ?_⟩
  walk_at "ww"
  refine ⟨(fun h => absurd h (by decide)), fun _ => ?_⟩
  walk_at "ww"
  refine ⟨(fun h => nomatch h), fun _ => ?_⟩
  walk_at "ww"
  refine w_If ?_
  walk_at "ww"
  ktf_call 226
  walk_at "ww"
  refine ⟨fun _ => ?_, (fun h => nomatch h)⟩
  walk_at "ww"
  refine w_hexm (by omega) fun t2 => ?_
  walk_at "ww"
  refine w_enc_ascii ?_ ?_ fun t3 => ?_
  · intro x hx
    obtain ⟨d, hd, rfl⟩ := List.mem_map.mp hx
    exact (hex_ne d (hexDs_lt bs d hd)).2.2.2.2
  · rw [List.length_map, hexDs_len]; omega
  walk_at "ww"
  refine ⟨t3, ?_, rfl⟩
  show Value.bytes _ _ = Value.bytes _ _
  rw [List.map_map]; rfl
theorem packbaA_sp {w : World} {b : Addr} {bs : List UInt8} {size : Nat} {u : Tok} (hl : bs.length ≤ 200) (hs : size ≤ 10000) :
    Sp w 3 (call (.ref 397) [.int size u, .ref b]) [] (fun hp => hp.get? b = some (baO bs)) (fun v P' => ∃ t, v = .str (S (chs ((bitsB bs).take size))) t ∧ P' = []) NoX := by
  refine Sp.def (F := fn_packba) (n := 2) (vals := [_, _]) (packba_is w) rfl rfl (fun s A p => BindsTo.of_eq (by kernel_rfl)) (by show 2 ≤ 2; decide) (V₀ := [some (.int size u), some (.ref b)]) rfl (fun C hw hn hb => W.shrink ?_)
  have ok := (packba_is w).ok
  walk_at "ww"
  ktf_call 234
  walk_at "ww"
  refine w_spz (b2aA_sp (by omega)) (by omega) (fun hp k => k _ _ (.inr hb)) (fun _ _ ⟨_, _, e⟩ => e) ?_
  rintro v P' ⟨t1, rfl, _⟩
  refine w_add_B (by simp [hexB, hexDs_len]; omega) fun t2 => ?_
  walk_at "ww"
  have e1 : [48, 49] ++ hexB (hexDs bs) = hexB (0 :: 1 :: hexDs bs) := rfl
  rw [e1]
  refine w_int16 (ds := 0 :: 1 :: hexDs bs) ?_ (by simp) (by simp) (by simp [hexDs_len]; omega) fun t3 => ?_
  · intro d hd
    rcases List.mem_cons.mp hd with rfl | hd
    · decide
    · rcases List.mem_cons.mp hd with rfl | hd
      · decide
      · exact hexDs_lt bs d hd
  walk_at "ww"
  refine w_bin (k := 8 * bs.length) (m := vB bs) ?_ (vB_lt bs) (by omega) fun t4 => ?_
  · have : foldD 16 (0 :: 1 :: hexDs bs) 0 = foldD 16 (hexDs bs) 1 := rfl
    rw [this, foldD_acc16, hexDs_len, pow16, Nat.one_mul]; rfl
  walk_at "ww"
  refine cut_str (.int _ _) (.int _ _) (by simp [chs_len, bitsN_len]; omega) fun t5 => ?_
  walk_at "ww"
  refine ⟨[], SubP.nil, t5, ?_, rfl⟩
  rw [cutM (i := 3) (j := (size : Int) + 3) (a := 3) (b := size + 3) rfl (by omega)]
  show Value.str (S (((chs (bitsB bs))).take (size + 3 - 3))) _ = _
  rw [Nat.add_sub_cancel, chs_take]
theorem bitsB_len (bs : List UInt8) : (bitsB bs).length = 8 * bs.length := bitsN_len _ _
theorem seqn_next {F : Fn} {C : Cx F} {rest : List Stmt} {Q : Flow → Vals → Led → Prop} {V : Vals} {H : Led} (h : N C (execs rest C.env) V H Q) : SeqN C rest Q .next V H := h
/-- a buffer's bytes after a write -/
noncomputable def intoB (low : Bool) (bs : List UInt8) (off : Nat) (gs : List G) : List UInt8 := unB (encAll low ((bitsB bs).take off) gs ++ (bitsB bs).drop (off + sizes gs))
theorem intoB_len {low : Bool} {bs : List UInt8} {off : Nat} {gs : List G} (h : off + sizes gs ≤ 8 * bs.length) : (intoB low bs off gs).length = bs.length := by
  unfold intoB unB
  rw [bytesN_len, List.length_append, encAll_len, List.length_take, List.length_drop, bitsB_len]; omega
set_option maxHeartbeats 1000000 in
theorem pia_sp {w : World} {x va b : Addr} {is : List II} {low : Bool} {Z : Led} {gs : List G} {vs : List Value} {bs : List UInt8} {off : Nat} {t0 : Tok} (hZ : CfL x is low Z) (hS : is.map II.spec = specOf 0 gs) (hG : ∀ g ∈ gs, g.Ok) (hv : PVs (vals gs) vs) (hgl : gs.length ≤ 1000) (hoff : off + sizes gs ≤ 8 * bs.length) (hbl : bs.length ≤ 62) :
    SpNC w 6 (.ref 445) ⟨[.ref x, .ref b, .int off t0, .ref va], []⟩ [(b, baO bs)] (fun hp => ledIn Z hp ∧ hp.get? va = some (tupO vs)) (fun v P' => v = .none ∧ P' = [(b, baO (intoB low bs off gs))]) := by
  refine SpNC.defM (F := fn_pia) (n := 5) (vals := fun N => [.ref x, .ref b, .int off t0, .ref va, .ref N]) (k := 5) (os := [dictOf [] 0]) (V₀ := fun N => [some (.ref x), some (.ref b), some (.int off t0), some (.ref va), some (.ref N), none, none, none, none]) (pia_is w) rfl rfl
    (BindsMade.kws (binds := fun d => [(Str.ofString "self", .ref x), (Str.ofString "buf", .ref b), (Str.ofString "offset", .int off t0), (Str.ofString "data", .ref va), (Str.ofString "kwargs", d)]) (by kernel_rfl)) (fun o ho => by rw [List.mem_singleton.mp ho]; rfl) (fun _ => rfl) (by show 5 ≤ 9; decide) (fun _ => rfl) (fun C N hN hw hn hb => ?_)
  have ok := (pia_is w).ok
  subst hw
  obtain ⟨hb, hva⟩ := hb
  obtain ⟨dx, od, l, n, L, hI, hO, rfl⟩ := id hZ.ex
  obtain ⟨ko, kb, ka, hD⟩ := hO.ex
  have hc := cf_ok C.w
  have hx : C.h₀.get? x = some (instObj 507 dx) := hb _ (.head _)
  have hdx : C.h₀.get? dx = some od := hb _ (.tail _ (.head _))
  have hl : C.h₀.get? l = some (listO (irefs is) n) := hb _ (.tail _ (.tail _ (.head _)))
  have hlen : is.length = gs.length := by have := congrArg List.length hS; rwa [List.length_map, specOf_len] at this
  have hNs : (N == sysModules) = false := beq_eq_false_iff_ne.mpr (Nat.ne_of_gt hN)
  dsimp only [ledOf, List.cons_append, List.nil_append]
  refine n_cons (w2n ?_)
  walk_at "ww"
  refine w_dict_m F.slot_dict_get F.type_dict_get (.inl (.head _)) ?_
  walk_at "ww"
  refine w_dict_get (.inl (.head _)) hNs ?_
  walk_at "ww"
  refine seqn_next (n_cons (w2n ?_))
  walk_at "ww"
  ktf_call 397
  walk_at "ww"
  refine w_len_ba (.inl (.tail _ (.head _))) (by omega) fun t1 => ?_
  refine w_mul_int (m := 4) (n := 10) (by decide) (by rw [Int.natAbs_natCast]; omega) (by decide) fun t2 => ?_
  walk_at "ww"
  have e8 : (8 : Int) * (bs.length : Int) = ((8 * bs.length : Nat) : Int) := by omega
  rw [e8]
  refine w_spz (packbaA_sp (by omega) (by omega)) (by omega) (fun hp k => k _ _ (.inl (.tail _ (.head _)))) (fun _ _ ⟨_, _, e⟩ => e) ?_
  rintro v P' ⟨t3, rfl, _⟩
  rw [← bitsB_len, List.take_length]
  walk_at "ww"
  refine seqn_next (n_cons (w2n ?_))
  have hBL := bitsB_len bs
  walk_at "ww"
  refine cut_str (.int _ _) (.int _ _) (by rw [chs_len]; omega) fun t4 => ?_
  rw [cutM (i := 0) (a := 0) (b := off) rfl rfl, List.drop_zero, Nat.sub_zero, chs_take]
  walk_at "ww"
  refine seqn_next (n_cons (w2n ?_))
  walk_at "ww"
  refine w_getOwn (.inr hx) (.inr hdx) hD (hc.hg _) hc.hh (hc.fi cInfos (by simp)) (val := .ref l) (by kernel_rfl) rfl ?_
  refine w_iter_list (.inr hl) (.listO _ _) fun it o hit => ?_
  refine loop_list hit (.listO (irefs is) n) (fun i V H => H = [(N, dictOf [] 0), (b, baO bs)] ∧ ∃ t oi, V = [some (.ref x), some (.ref b), some (.int off t0), some (.ref va), some (.ref N), some (.bool true), some (.str (S (chs (bitsB bs))) t3), some (.str (S (chs (encAll low ((bitsB bs).take off) (gs.take i)))) t), oi]) (fun _ _ _ _ => .inr hl) ⟨rfl, _, _, rfl⟩ ?_ ?_
  · rintro i y V H o hy ⟨rfl, t, oi, rfl⟩
    obtain ⟨j, hj, rfl⟩ : ∃ j, is[i]? = some j ∧ y = .ref j.x := by
      unfold irefs at hy
      rw [List.getElem?_map] at hy
      cases e : is[i]? with
      | none => rw [e] at hy; cases hy
      | some x => rw [e] at hy; cases hy; exact ⟨x, rfl, rfl⟩
    obtain ⟨hjo, hm1, hm2⟩ := hI.at j (List.mem_of_getElem? hj)
    obtain ⟨g, hg, e1, e2, e3, e4⟩ := info_at hS hj
    have hgo : g.Ok := hG g (List.mem_of_getElem? hg)
    have hj1 : C.h₀.get? j.x = some (instObj (clsK j.kd) j.dx) := hb _ (.tail _ (.tail _ (.tail _ hm1)))
    have hj2 : C.h₀.get? j.dx = some j.od := hb _ (.tail _ (.tail _ (.tail _ hm2)))
    have hBl : (encAll low ((bitsB bs).take off) (gs.take i)).length ≤ 500 := by rw [encAll_len, List.length_take]; have := sizes_take gs i; omega
    obtain ⟨B, hB⟩ : ∃ B, B = encAll low ((bitsB bs).take off) (gs.take i) := ⟨_, rfl⟩
    have hE : encAll low ((bitsB bs).take off) (gs.take (i + 1)) = encG low B g := by rw [hB]; exact encAll_take hg
    rw [← hB] at hBl ⊢
    have hgs : g.size ≤ 1000 := by
      have : ∀ {kd size num : Nat} {val back : PV}, FG kd size num val back → size ≤ 24 := by
        intro kd size num val back hg
        cases hg <;> omega
      have := this hgo
      omega
    walk_at "ww"
    refine w_If ?_
    walk_at "ww"
    ktf_call 310
    walk_at "ww"
    refine w_isPad hjo (.inr hj1) (.inr hj2) ?_
    walk_at "ww"
    refine ⟨fun hp => ?_, fun hp => ?_⟩
    · have hk : j.kd ∈ [112, 80] := of_decide_eq_true hp
      walk_at "ww"
      refine w_If ?_
      walk_at "ww"
      refine ⟨fun _ => ?_, (fun h => nomatch h)⟩
      walk_at "ww"
      refine w_packM hjo (.inr hj1) (.inr hj2) ?_
      walk_at "ww"
      refine w_packP (by omega) hjo (.inr hj1) (.inr hj2) hk (by omega) fun t1 => ?_
      walk_at "ww"
      refine w_iadd_S (by rw [chs_len, chs_len, List.length_replicate]; omega) fun t2 => ?_
      rw [← chs_append]
      walk_at "ww"
      refine ⟨_, .rfl, rfl, t2, some (.ref j.x), ?_⟩
      rw [hE]
      unfold encG
      rw [e1] at hk
      rw [if_pos hk, e1, e2]
    · have hk : ¬ j.kd ∈ [112, 80] := of_decide_eq_false hp
      walk_at "ww"
      refine w_methInst (.inr hx) (.inr hdx) hD (hc.hg _) (by kernel_rfl) (by kernel_rfl) (by kernel_rfl) (f := 424) ?_
      walk_at "ww"
      obtain ⟨kv, hDj, hKj, _⟩ := hjo.ex
      obtain ⟨ti, hnm⟩ := hKj.nm hk
      refine w_getOwn (.inr hj1) (.inr hj2) hDj ((cls_ok C.w j.kd hjo.kd).hg _) (cls_ok C.w j.kd hjo.kd).hh ((cls_ok C.w j.kd hjo.kd).fi aName (by simp)) hnm rfl ?_
      obtain ⟨v, hvv, hvi⟩ := val_at hv hg (by rw [← e1]; exact hk)
      have hvl := hv.len
      have hlt := (List.getElem?_eq_some_iff.mp hvv).1
      have hvl2 : (vals gs).length ≤ gs.length := by unfold vals; rw [List.length_map]; exact List.length_filter_le _ _
      refine w_itup (.inr hva) (i := j.idx) rfl (by rw [e4]; exact hvv) (by rw [e4]; omega) ?_
      walk_at "ww"
      have hgo' : FG j.kd j.size g.num g.val g.back := by rw [e1, e2]; exact hgo
      refine w_spz (packval_sp hO hjo hgo' hk hvi (by omega)) (by omega) (fun hp k => ⟨⟨k _ _ (.inr hx), k _ _ (.inr hdx)⟩, k _ _ (.inr hj1), k _ _ (.inr hj2)⟩) (fun _ _ ⟨_, _, e⟩ => e) ?_
      rintro v' P' ⟨t2, rfl, _⟩
      walk_at "ww"
      refine ⟨_, .rfl, rfl, t2, some (.ref j.x), ?_⟩
      rw [hE]
      unfold encG
      rw [e1] at hk
      rw [if_neg hk, e1, e2, e3]
  · rintro V H ⟨rfl, t, oi, rfl⟩
    rw [show (irefs is).length = gs.length by unfold irefs; rw [List.length_map, hlen], List.take_length]
    have hEl : (encAll low ((bitsB bs).take off) gs).length = off + sizes gs := by rw [encAll_len, List.length_take]; omega
    have hres : intoB low bs off gs = unB (encAll low ((bitsB bs).take off) gs ++ (bitsB bs).drop (off + sizes gs)) := rfl
    have hrl := intoB_len (low := low) hoff
    rw [hres] at hrl ⊢
    generalize encAll low ((bitsB bs).take off) gs = B at hEl hrl ⊢
    refine seqn_next (n_cons (w2n ?_))
    walk_at "ww"
    refine w_len_S (by rw [chs_len]; omega) fun t5 => ?_
    rw [chs_len]
    walk_at "ww"
    refine cut_str (.int _ _) .none (by rw [chs_len]; omega) fun t6 => ?_
    rw [cutF rfl, chs_drop, hEl]
    refine w_iadd_S (by rw [chs_len, chs_len, List.length_drop]; omega) fun t7 => ?_
    rw [← chs_append]
    walk_at "ww"
    have hTl : (B ++ (bitsB bs).drop (off + sizes gs)).length = 8 * bs.length := by rw [List.length_append, hEl, List.length_drop]; omega
    generalize B ++ (bitsB bs).drop (off + sizes gs) = T at hTl hrl ⊢
    refine seqn_next (n_cons (w2n ?_))
    refine w_If ?_
    walk_at "ww"
    refine w_len_S (by rw [chs_len]; omega) fun t8 => ?_
    walk_at "ww"
    refine w_len_S (by rw [chs_len]; omega) fun t9 => ?_
    rw [chs_len, chs_len]
    walk_at "ww"
    refine ⟨fun h => ?_, fun _ => ?_⟩
    · exfalso
      have := of_decide_eq_true h
      omega
    walk_at "ww"
    refine seqn_next (n_cons (n_AssignItem ?_))
    walk_at "ww"
    ktf_call 404
    walk_at "ww"
    refine w_len_S (by rw [chs_len]; omega) fun t10 => ?_
    rw [chs_len]
    walk_at "ww"
    refine w_spz (unpackba_sp rfl (by omega)) (by omega) (fun _ _ => trivial) (fun _ _ ⟨_, _, e⟩ => e) ?_
    rintro v' P' ⟨t11, rfl, _⟩
    walk_at "ww"
    refine w_Slice ?_
    walk_at "ww"
    intro sl
    refine n_setslice (b := b) (R := [(sl, sliceN), (N, dictOf [] 0)]) (.take (.there (.there .here)) .rfl) (.inl (.head _)) hrl (by omega) ?_
    refine seqn_next (n_nil ?_)
    exact ⟨_, .take .here .nil, rfl, rfl⟩
-- part F22
/-! pack_into -/
theorem cf_pi_sp {w : World} {x b : Addr} {is : List II} {low : Bool} {Z : Led} {gs : List G} {vs : List Value} {bs : List UInt8} {off : Nat} {t0 : Tok} (hZ : CfL x is low Z) (hS : is.map II.spec = specOf 0 gs) (hG : ∀ g ∈ gs, g.Ok) (hv : PVs (vals gs) vs) (hgl : gs.length ≤ 1000) (hoff : off + sizes gs ≤ 8 * bs.length) (hbl : bs.length ≤ 62) :
    SpNC w 7 (.ref 498) ⟨.ref x :: .ref b :: .int off t0 :: vs, []⟩ [(b, baO bs)] (fun hp => ledIn Z hp) (fun v P' => v = .none ∧ P' = [(b, baO (intoB low bs off gs))]) := by
  have hvl := hv.len
  have hvl2 : (vals gs).length ≤ gs.length := by unfold vals; rw [List.length_map]; exact List.length_filter_le _ _
  refine SpNC.defM (F := fn_cf_pi) (n := 6) (vals := fun N => [.ref x, .ref b, .int off t0, .ref N, .ref (N + 1)]) (k := 5) (os := [tupO vs, dictOf [] 0]) (V₀ := fun N => [some (.ref x), some (.ref b), some (.int off t0), some (.ref N), some (.ref (N + 1))]) (cf_pi_is w) rfl rfl
    (BindsMade.star2 (binds := fun t d => [(Str.ofString "self", .ref x), (Str.ofString "buf", .ref b), (Str.ofString "offset", .int off t0), (Str.ofString "args", t), (Str.ofString "kwargs", d)]) (by omega) (by cases vs <;> kernel_rfl)) (fun o ho => by
      rcases List.mem_cons.mp ho with rfl | ho
      · rfl
      · rw [List.mem_singleton.mp ho]; rfl) (fun _ => rfl) (by show 5 ≤ 5; decide) (fun _ => rfl) (fun C N hN hw hn hb => ?_)
  have ok := (cf_pi_is w).ok
  subst hw
  obtain ⟨dx, od, l, n, L, hI, hO, rfl⟩ := id hZ.ex
  obtain ⟨ko, kb, ka, hD⟩ := hO.ex
  have hc := cf_ok C.w
  have hx : C.h₀.get? x = some (instObj 507 dx) := hb _ (.head _)
  have hdx : C.h₀.get? dx = some od := hb _ (.tail _ (.head _))
  have hNs : (((N : Nat) + 1 : Addr) == sysModules) = false := beq_eq_false_iff_ne.mpr (fun e => Nat.lt_irrefl sysModules (Nat.lt_of_lt_of_le hN (Nat.le_of_lt (by
    have : (N + 1 : Nat) = sysModules := e
    omega))))
  dsimp only [ledOf, List.cons_append, List.nil_append]
  refine n_cons (w2n ?_)
  refine w_If ?_
  walk_at "ww"
  refine w_len_tup (.inl (.head _)) (by omega) fun t1 => ?_
  walk_at "ww"
  refine w_getOwn (.inr hx) (.inr hdx) hD (hc.hg _) hc.hh (hc.fi cArgs (by simp)) (val := .int (nArgs is) ka) (by kernel_rfl) rfl ?_
  walk_at "ww"
  refine ⟨fun h => ?_, fun _ => ?_⟩
  · exfalso
    have := of_decide_eq_true h
    rw [nArgs_eq hS] at this; omega
  walk_at "ww"
  refine seqn_next (n_cons (n_Expr (n_MethodCallS ?_) (by kernel_rfl) (by kernel_rfl)))
  walk_at "ww"
  refine w_bound (.inr hx) (.inr hdx) hD (hc.hg _) hc.hh (by kernel_rfl) (by kernel_rfl) (by kernel_rfl) (by kernel_rfl) (by decide +kernel) (by kernel_rfl) (f := 445) fun q => ?_
  refine n_callWith ?_
  refine w_evalKW ?_
  walk_at "ww"
  intro d
  walk_at "ww"
  refine ⟨N + 1, rfl, hNs, .inl (.tail _ (.tail _ (.tail _ (.head _)))), .inl (.head _), kept_bound (.tail _ (.head _)) (by kernel_rfl), ?_⟩
  refine n_callM (P := [(b, baO bs)]) (R := [(q, methodObj (.ref 445) (.ref x)), (N, tupO vs)]) (self := .ref x) (by simp) (pia_sp hZ hS hG hv hgl hoff hbl) (by omega) (.take (.there (.there (.there (.there .here)))) (.skip (.take .here (.take .here .nil)))) (fun hp k => ⟨fun p hp' => k _ _ (.inr (hb p hp')), k _ _ (.inl (.tail _ (.head _)))⟩) ?_
  rintro v P' ⟨rfl, rfl⟩
  walk_at "ww"
  refine seqn_next (n_nil ?_)
  exact ⟨_, .take .here .nil, rfl, rfl⟩
theorem Tk.app {p : Addr × Obj} {B B' : Led} (h : Tk p B B') : ∀ {A : Led}, Tk p (A ++ B) (A ++ B')
  | [] => h
  | _ :: _ => .there (Tk.app h)
theorem m_pi_sp {w : World} {b : Addr} {fs : List Fi} {gs : List G} {tail : Option Bool} {t1 : Tok} {vs : List Value} {bs : List UInt8} {off : Nat} {t0 : Tok} (hF : FmtOk fs gs) (hv : PVs (vals gs) vs) (hoff : off + sizes gs ≤ 8 * bs.length) (hbl : bs.length ≤ 62) :
    SpN w 9 (call (.ref 531) (.str (S (fmtL fs ++ tailL tail)) t1 :: .ref b :: .int off t0 :: vs)) [(b, baO bs)] (fun _ => True) (fun v P' => v = .none ∧ P' = [(b, baO (intoB (tail.getD false) bs off gs))]) := by
  have hvl := hv.len
  have hvl2 : (vals gs).length ≤ gs.length := by unfold vals; rw [List.length_map]; exact List.length_filter_le _ _
  have hgl := hF.gl
  refine SpN.defM (F := fn_m_pi) (n := 8) (vals := fun N => [.str (S (fmtL fs ++ tailL tail)) t1, .ref b, .int off t0, .ref N, .ref (N + 1)]) (k := 5) (os := [tupO vs, dictOf [] 0]) (V₀ := fun N => [some (.str (S (fmtL fs ++ tailL tail)) t1), some (.ref b), some (.int off t0), some (.ref N), some (.ref (N + 1))]) (m_pi_is w) rfl rfl
    (BindsMade.star2 (binds := fun t d => [(Str.ofString "fmt", .str (S (fmtL fs ++ tailL tail)) t1), (Str.ofString "buf", .ref b), (Str.ofString "offset", .int off t0), (Str.ofString "args", t), (Str.ofString "kwargs", d)]) (by omega) (by cases vs <;> kernel_rfl)) (fun o ho => by
      rcases List.mem_cons.mp ho with rfl | ho
      · rfl
      · rw [List.mem_singleton.mp ho]; rfl) (fun _ => rfl) (by show 5 ≤ 5; decide) (fun _ => rfl) (fun C N hN hw hn hb => ?_)
  have ok := (m_pi_is w).ok
  subst hw
  have hNs : (((N : Nat) + 1 : Addr) == sysModules) = false := beq_eq_false_iff_ne.mpr (fun e => Nat.lt_irrefl sysModules (Nat.lt_of_lt_of_le hN (Nat.le_of_lt (by
    have : (N + 1 : Nat) = sysModules := e
    omega))))
  dsimp only [ledOf, List.cons_append, List.nil_append]
  refine n_cons (n_Return (n_MethodCallS ?_))
  walk_at "ww"
  ktf_call 507
  walk_at "ww"
  refine w_newCf1 (by omega) hF.ok hF.ne hF.len fun x is Z hS hZ => ?_
  obtain ⟨dx, od, l, n, L, hI, hO, rfl⟩ := id hZ.ex
  obtain ⟨ko, kb, ka, hD⟩ := hO.ex
  have hc := cf_ok C.w
  walk_at "ww"
  refine w_bound (.inl (.head _)) (.inl (.tail _ (.head _))) hD (hc.hg _) hc.hh (by kernel_rfl) (by kernel_rfl) (by kernel_rfl) (by kernel_rfl) (by decide +kernel) (by kernel_rfl) (f := 498) fun q => ?_
  refine n_callWith ?_
  refine w_evalKW ?_
  refine w_args_cons ?_
  refine w_Name ok (by tb_start) ?_
  refine w_args_cons ?_
  refine w_Name ok (by tb_start) ?_
  refine w_args_star ?_
  walk_at "ww"
  refine ⟨N, vs, rfl, .inl (.tail _ (List.mem_append_right _ (.head _))), by omega, ?_⟩
  walk_at "ww"
  intro d
  walk_at "ww"
  refine ⟨N + 1, rfl, hNs, .inl (.tail _ (.tail _ (List.mem_append_right _ (.tail _ (.head _))))), .inl (.head _), kept_bound (.tail _ (.head _)) (by kernel_rfl), ?_⟩
  rw [List.append_nil]
  refine n_callM (P := [(b, baO bs)]) (R := (q, methodObj (.ref 498) (.ref x)) :: (x, instObj 507 dx) :: (dx, od) :: (l, listO (irefs is) n) :: L) (self := .ref x) (by simp) (cf_pi_sp hZ (hS.trans hF.spec) hF.grp hv hF.gl hoff hbl) (by omega)
    (.take (.there (.there (.there (.there (.there (Tk.app (.there (.there .here)))))))) (.skip (.take .here (.take .here (.take .here (.take .here .split_left)))))) (fun hp k p hp' => k _ _ (.inl (.tail _ hp'))) ?_
  rintro v P' ⟨rfl, rfl⟩
  exact ⟨_, .take .here .nil, rfl, rfl⟩
-- part F23a
/-! chunks the other way round -/
theorem chk_mid : ∀ (mid : List (List Bool)) (Z : List Bool) (f : Nat), (∀ m ∈ mid, m.length = 8) → Z ≠ [] → Z.length ≤ 8 → (Z ++ mid.reverse.flatten).length ≤ f → chk f (Z ++ mid.reverse.flatten) 8 = mid.flatten ++ Z
  | [], Z, f, _, hz, hZ, hf => by
    cases f with
    | zero => simp at hf; exact absurd hf hz
    | succ f => simp only [List.reverse_nil, List.flatten_nil, List.append_nil, List.nil_append]; unfold chk; rw [if_pos hZ]
  | m :: mid, Z, f, hm, hz, hZ, hf => by
    have h8 := hm m (.head _)
    have hz' : 0 < Z.length := List.length_pos_iff.mpr hz
    have e : Z ++ (m :: mid).reverse.flatten = (Z ++ mid.reverse.flatten) ++ m := by simp
    rw [e] at hf ⊢
    obtain ⟨W, hW⟩ : ∃ W, W = Z ++ mid.reverse.flatten := ⟨_, rfl⟩
    have hWl : 0 < W.length := by rw [hW, List.length_append]; omega
    rw [← hW] at hf ⊢
    cases f with
    | zero => rw [List.length_append] at hf; omega
    | succ f =>
      unfold chk
      have hl : (W ++ m).length - 8 = W.length := by rw [List.length_append]; omega
      rw [if_neg (by rw [List.length_append]; omega), hl, List.drop_left, List.take_left, hW, chk_mid mid Z f (fun x hx => hm x (.tail _ hx)) hz hZ (by rw [← hW]; rw [List.length_append] at hf; omega)]
      simp
theorem chunks : ∀ (n : Nat) (W : List Bool), W.length ≤ n → W ≠ [] → ∃ (mid : List (List Bool)) (Z : List Bool), W = Z ++ mid.reverse.flatten ∧ (∀ m ∈ mid, m.length = 8) ∧ Z ≠ [] ∧ Z.length ≤ 8
  | 0, W, h, hne => absurd (List.eq_nil_of_length_eq_zero (by omega)) hne
  | n + 1, W, h, hne => by
    by_cases q : W.length ≤ 8
    · exact ⟨[], W, by simp, (fun _ h => nomatch h), hne, q⟩
    · obtain ⟨mid, Z, e, h8, hz, hZ⟩ := chunks n (W.take (W.length - 8)) (by rw [List.length_take]; omega) (by
        intro e
        have := congrArg List.length e
        rw [List.length_take] at this
        simp at this
        omega)
      refine ⟨W.drop (W.length - 8) :: mid, Z, ?_, fun m hm => ?_, hz, hZ⟩
      · rw [List.reverse_cons, List.flatten_append, ← List.append_assoc, ← e]
        simp
      · rcases List.mem_cons.mp hm with rfl | hm
        · rw [List.length_drop]; omega
        · exact h8 m hm
theorem chk_split {f : Nat} {Z C : List Bool} {mid : List (List Bool)} {r : Nat} (hm : ∀ m ∈ mid, m.length = 8) (hz : Z ≠ []) (hZ : Z.length ≤ 8) (hr : C.length = r) (hf : (Z ++ mid.reverse.flatten ++ C).length ≤ f) (h1 : 1 ≤ r) :
    chk f (Z ++ mid.reverse.flatten ++ C) r = C ++ mid.flatten ++ Z := by
  obtain ⟨W, hW⟩ : ∃ W, W = Z ++ mid.reverse.flatten := ⟨_, rfl⟩
  have hz' : 0 < Z.length := List.length_pos_iff.mpr hz
  have hWl : 0 < W.length := by rw [hW, List.length_append]; omega
  rw [← hW] at hf ⊢
  rw [List.length_append] at hf
  cases f with
  | zero => omega
  | succ f =>
    unfold chk
    have hl : (W ++ C).length - r = W.length := by rw [List.length_append]; omega
    rw [if_neg (by rw [List.length_append]; omega), hl, List.drop_left, List.take_left, hW, chk_mid mid Z f hm hz hZ (by rw [← hW]; omega), List.append_assoc]
theorem chk_zero {f : Nat} {T : List Bool} (h : T ≠ []) : chk (f + 1) T 0 = chk f T 8 := by
  have h' : 0 < T.length := List.length_pos_iff.mpr h
  conv => lhs; unfold chk
  rw [if_neg (by omega), Nat.sub_zero, List.drop_length, List.take_length, List.nil_append]
theorem chk_short {f : Nat} {T : List Bool} {r : Nat} (h : T.length ≤ r) : chk f T r = T := by
  cases f with
  | zero => rfl
  | succ f => unfold chk; rw [if_pos h]
theorem chk_back {vb : List Bool} {o : Nat} (hne : vb ≠ []) : chk (vb.length + 1) (chk vb.length vb (8 - o % 8)) ((o + vb.length) % 8) = vb := by
  have hl : 0 < vb.length := List.length_pos_iff.mpr hne
  by_cases q : vb.length ≤ 8 - o % 8
  · rw [chk_short q]
    by_cases q2 : (o + vb.length) % 8 = 0
    · rw [q2, chk_zero hne, chk_short (by omega)]
    · rw [chk_short (by omega)]
  · obtain ⟨r, hr⟩ : ∃ r, r = 8 - o % 8 := ⟨_, rfl⟩
    rw [← hr] at q ⊢
    obtain ⟨mid, Z, e, h8, hz, hZ⟩ := chunks vb.length (vb.take (vb.length - r)) (by rw [List.length_take]; omega) (by
      intro e
      have := congrArg List.length e
      rw [List.length_take] at this
      simp at this
      omega)
    obtain ⟨C, hC⟩ : ∃ C, C = vb.drop (vb.length - r) := ⟨_, rfl⟩
    have hv : vb = Z ++ mid.reverse.flatten ++ C := by rw [← e, hC, List.take_append_drop]
    have hCl : C.length = r := by rw [hC, List.length_drop]; omega
    have hCne : C ≠ [] := by intro e; rw [e] at hCl; simp at hCl; omega
    have hmod : ∀ (l : List (List Bool)), (∀ m ∈ l, m.length = 8) → l.flatten.length % 8 = 0 := by
      intro l
      induction l with
      | nil => intro _; rfl
      | cons x l ih => intro hx; rw [List.flatten_cons, List.length_append]; have := ih fun m hm => hx m (.tail _ hm); have := hx x (.head _); omega
    have hm8 : ∀ m ∈ mid.reverse, m.length = 8 := fun m hm => h8 m (List.mem_reverse.mp hm)
    have hlen : vb.length = Z.length + mid.reverse.flatten.length + C.length := by conv => lhs; rw [hv]
                                                                                   rw [List.length_append, List.length_append]
    have hmr := hmod _ hm8
    have hz' : 0 < Z.length := List.length_pos_iff.mpr hz
    have inner : chk vb.length vb r = C ++ mid.flatten ++ Z := by
      conv => lhs; rw [hv]
      exact chk_split h8 hz hZ hCl (by rw [← hv]; exact Nat.le_refl _) (by omega)
    rw [inner]
    have eT : C ++ mid.flatten ++ Z = C ++ mid.reverse.reverse.flatten ++ Z := by rw [List.reverse_reverse]
    have hTl : (C ++ mid.reverse.reverse.flatten ++ Z).length = vb.length := by rw [← eT, ← inner, chk_len]
    have fin : C ++ mid.reverse.reverse.flatten ++ Z = C ++ mid.reverse.reverse.flatten ++ Z → Z ++ mid.reverse.flatten ++ C = vb := fun _ => hv.symm
    have hC8 : C.length ≤ 8 := by omega
    rw [eT]
    by_cases q2 : Z.length = 8
    · have : (o + vb.length) % 8 = 0 := by omega
      rw [this, chk_zero (by intro e; rw [e] at hTl; simp at hTl; omega), chk_split (mid := mid.reverse) hm8 hCne hC8 q2 (by omega) (by omega)]
      exact hv.symm
    · have : (o + vb.length) % 8 = Z.length := by omega
      rw [this, chk_split (mid := mid.reverse) hm8 hCne hC8 rfl (by omega) (by omega)]
      exact hv.symm
/-- what of the groups fits -/
noncomputable def fitG (len : Nat) : Nat → List G → List G
  | _, [] => []
  | o, g :: r => if o + g.size ≤ len then g :: fitG len (o + g.size) r else []
noncomputable def backsG (gs : List G) : List PV := (gs.filter G.keep).map G.back
/-- the bits hold the groups -/
noncomputable def Fits (low : Bool) (bits : List Bool) : Nat → List G → Prop
  | _, [] => True
  | o, g :: r => (o + g.size ≤ bits.length → ¬ g.kind ∈ [112, 80] → (bits.drop o).take g.size = encB low g.kind g.little o (bitsN g.size g.num)) ∧ Fits low bits (o + g.size) r
-- part Ge1
/-! steps of a generator's segment -/
section
variable {w : World} {A : Around} {R : GenEnd} {Y : Protocol} {n : Nat} {s₀ : Shared} {c : Code} {fs : List Frame} {s : Shared} {env : Env}
  {K : Flow → Sem Fin} {Hh : Value → Sem Fin} {gd : Bool → Bool} {lv : List Value → List Value}

theorem seg_eq {t t' : Sem Fin} (e : t = t') (h : Seg (model prog w) A R Y n s₀ c t' fs s) : Seg (model prog w) A R Y n s₀ c t fs s := e ▸ h

theorem seg_If {test : Expr} {body orelse : List Stmt} {pos : Pos}
    (h : wpAny (model prog w) (A.over c fs) (isTrue test env (eval test env)) (fun b s' => Seg (model prog w) A R Y n s₀ c ((if b = true then execs body env else execs orelse env).wrap K Hh gd lv) fs s')
      (fun _ _ => False) s) :
    Seg (model prog w) A R Y n s₀ c ((exec (.If test body orelse pos) env).wrap K Hh gd lv) fs s := by
  rw [exec_If]
  refine seg_at ?_
  show Seg _ A R Y n s₀ c (Sem.wrap K Hh gd lv (isTrue test env (eval test env) >>= fun b => if b = true then execs body env else execs orelse env)) fs s
  rw [Sem.bind_eq_wrap', Sem.wrap_wrap]
  exact seg_wrap (wpAny_mono h (fun b s' h' => h') fun _ _ x => x.elim)

theorem seg_For {target iter : Expr} {body : List Stmt} {pos : Pos}
    (h : wpAny (model prog w) (A.over c fs) (eval iter env) (fun x s1 => wpAny (model prog w) (A.over c fs) (pyIter x) (fun it s2 => ∀ p,
        Seg (model prog w) A R Y n s₀ (.forLoop target it body [] env) ((model prog w).den (.forLoop target it body [] env))
          (.ret (fun r => ((match r with | .ok f => (.pure f : Sem Flow) | .error e => .raise e).onRaise fun (x : Value) => do
            if (← field x 1) == Value.none then unsupported "frame.own-activation:exception-without-traceback"
            setFlight x env.frame).wrap K Hh gd lv) none (gd false) (lv []) c p [] :: fs) s2) (fun _ _ => False) s1) (fun _ _ => False) s)
    (hs : ∀ x, foldedSetIterable iter env x = Pure.pure x) :
    Seg (model prog w) A R Y n s₀ c ((exec (.For target iter body [] pos) env).wrap K Hh gd lv) fs s := by
  rw [exec_For]
  refine seg_at ?_
  show Seg _ A R Y n s₀ c (Sem.wrap K Hh gd lv (eval iter env >>= fun x0 => foldedSetIterable iter env x0 >>= fun x => standAt iter.pos >>= fun _ => holding [x] (pyIter x) >>= fun it => runOwn (.forLoop target it body [] env) env)) fs s
  rw [Sem.bind_eq_wrap', Sem.wrap_wrap]
  refine seg_wrap (wpAny_mono h (fun x s1 h1 => ?_) fun _ _ x => x.elim)
  rw [hs]
  show Seg _ A R Y n s₀ c (Sem.wrap K Hh gd lv (standAt iter.pos >>= fun _ => holding [x] (pyIter x) >>= fun it => runOwn (.forLoop target it body [] env) env)) fs s1
  refine seg_at ?_
  show Seg _ A R Y n s₀ c (Sem.wrap K Hh gd lv (holding [x] (pyIter x) >>= fun it => runOwn (.forLoop target it body [] env) env)) fs s1
  rw [Sem.bind_eq_wrap', Sem.wrap_wrap]
  refine seg_wrap (wpAny_holding (wpAny_mono h1 (fun it s2 h2 => ?_) fun _ _ x => x.elim))
  exact seg_call h2

theorem seg_forLoop {target : Expr} {it : Value} {body : List Stmt}
    (h : wpAny (model prog w) (A.over (.forLoop target it body [] env) fs) (pyNext it) (fun r s1 => match r with
      | none => Seg (model prog w) A R Y n s₀ (.forLoop target it body [] env) (.pure (.again (.block [] env))) fs s1
      | some v => letOwnedTupleGo target it v = Pure.pure () ∧ wpAny (model prog w) (A.over (.forLoop target it body [] env) fs) (assign target env v) (fun _ s2 =>
          Seg (model prog w) A R Y n s₀ (.forLoop target it body [] env) ((execs body env).wrap (fun f => match f with
            | .next | .cont => .pure (.again (.forLoop target it body [] env))
            | .brk => .pure (.done .next)
            | .ret v => .pure (.done (.ret v))) (fun e => (do noteFrame e env; theTreesLotGoes e : Sem Unit).bind fun _ => .raise e) id id) fs s2) (fun _ _ => False) s1) (fun _ _ => False) s) :
    Seg (model prog w) A R Y n s₀ (.forLoop target it body [] env) ((model prog w).den (.forLoop target it body [] env)) fs s := by
  show Seg _ A R Y n s₀ _ ((forTurn target it body [] env).onRaise (fun x => do noteFrame x env; theTreesLotGoes x)) fs s
  rw [Sem.onRaise_eq_wrap]
  unfold forTurn
  refine seg_at ?_
  show Seg _ A R Y n s₀ _ (Sem.wrap _ _ _ _ (((pyNext it).onRaise (fun _ => standAt { target.pos with line := 0 })) >>= _)) fs s
  rw [Sem.bind_eq_wrap', Sem.wrap_wrap]
  refine seg_wrap (wpAny_onRaise (wpAny_mono h (fun r s1 h1 => ?_) fun _ _ x => x.elim))
  cases r with
  | none => exact h1
  | some v =>
    obtain ⟨ht, h1⟩ := h1
    show Seg _ A R Y n s₀ _ (Sem.wrap _ _ _ _ (letOwnedTupleGo target it v >>= fun _ => assign target env v >>= fun _ => execs body env >>= fun f => match f with
      | .next | .cont => again (.forLoop target it body [] env)
      | .brk => pure (.done .next)
      | .ret v => pure (.done (.ret v)))) fs s1
    rw [ht]
    show Seg _ A R Y n s₀ _ (Sem.wrap _ _ _ _ (assign target env v >>= fun _ => execs body env >>= fun f => match f with
      | .next | .cont => again (.forLoop target it body [] env)
      | .brk => pure (.done .next)
      | .ret v => pure (.done (.ret v)))) fs s1
    rw [Sem.bind_eq_wrap', Sem.wrap_wrap]
    refine seg_wrap (wpAny_mono h1 (fun _ s2 h2 => ?_) fun _ _ x => x.elim)
    rw [Sem.bind_eq_wrap', Sem.wrap_wrap]
    exact seg_eq (Sem.wrap_congr _ _ _ (fun f => by cases f <;> rfl) (fun e => rfl)) h2

theorem seg_endFor {k : Result → Sem Fin} {h g l c₁ p₁ kp} (hk : Seg (model prog w) A R Y n s₀ c₁ (k (.ok .next)) fs s) :
    Seg (model prog w) A R Y n s₀ c (.pure (.again (.block [] env))) (.ret k h g l c₁ p₁ kp :: fs) s := by
  refine seg_again rfl ?_
  show Seg _ A R Y n s₀ _ (leafOf (.ok .next)) _ s
  exact seg_leaf (.ok .next) hk
end
-- part Ge2
/-! a generator and the one who asks it -/
theorem markOver_same (x : Option Value) : markOver none x x = x := rfl
theorem AOk.over_func {n : Nat} {A : Around} (h : AOk (n + 1) A) (body : List Stmt) (env : Env) : AOk n (A.over (.func body env) []) := by
  refine ⟨h.hnd, ?_, ?_, ?_, ?_⟩
  · have := h.dep
    show A.depth + 0 + (1 + 0 + 0 + 0) + n ≤ 900
    omega
  · have := h.uni
    show A.units + 0 + 3 * 1 + 8 * n ≤ 9000
    omega
  · obtain ⟨l, e⟩ := h.fr
    exact ⟨env :: l, by show A.frames.map _ = _; rw [e]; rfl⟩
  · exact h.gd
theorem AOk.over_for {n : Nat} {A : Around} (h : AOk (n + 1) A) {k : Result → Sem Fin} {g : Bool} {l : List Value} {target : Expr} {it : Value} {fb body : List Stmt} {env : Env} {p : Pos} {kp : List Value} :
    AOk n (A.over (.forLoop target it fb [] env) [.ret k none g l (.func body env) p kp]) := by
  refine ⟨h.hnd, ?_, ?_, ?_, ?_⟩
  · have := h.dep
    show A.depth + ((1 + 0 + 0 + 0) + 0) + (0 + 0 + 0 + 0) + n ≤ 900
    omega
  · have := h.uni
    show A.units + (3 * 1 + 0) + 3 * 0 + 8 * n ≤ 9000
    omega
  · obtain ⟨l, e⟩ := h.fr
    exact ⟨env :: l, by show A.frames.map _ = _; rw [e]; rfl⟩
  · exact h.gd

/-- a generator's activation: what stays the same for its whole life. K = what its consumer writes -/
structure GC (F : Fn) where
  w : World
  A : Around
  L : Addr
  h₀ : Heap
  os₀ : OsState
  n : Nat
  aok : AOk (n + 1) A
  base : Base w h₀
  K : List Addr
noncomputable def GC.cx {F : Fn} (G : GC F) (A : Around) (ok : AOk G.n A) (g₀ : Array GenState) : Cx F := { w := G.w, A, L := G.L, h₀ := G.h₀, g₀, os₀ := G.os₀, n := G.n, aok := ok, base := G.base }
noncomputable def GC.env {F : Fn} (G : GC F) : Env := F.mkE G.L 0

/-- what the consumer may count on at a yield -/
structure KeptG (K : List Addr) (h₀ : Heap) (os₀ : OsState) (s₀ s : Shared) : Prop where
  guest : ∀ k ∈ K, ∀ o, s₀.heap.get? k = some o → s.heap.get? k = some o
  old : ∀ a o, h₀.get? a = some o → s.heap.get? a = some o
  gens : GensOk s₀.gens s.gens
  os : s.os = os₀
/-- what the generator may count on when asked again -/
structure Waits (K : List Addr) (os₀ : OsState) (s s' : Shared) : Prop where
  keep : ∀ a o, a ∉ K → s.heap.get? a = some o → s'.heap.get? a = some o
  guest : ∀ k ∈ K, ∃ o, s'.heap.get? k = some o
  os : s'.os = os₀
theorem Waits.trans {K : List Addr} {os₀ : OsState} {a b c : Shared} (x : Waits K os₀ a b) (y : Waits K os₀ b c) : Waits K os₀ a c :=
  ⟨fun k o hk e => y.keep k o hk (x.keep k o hk e), y.guest, y.os⟩
noncomputable def gY (K : List Addr) (h₀ : Heap) (os₀ : OsState) (Out : Nat → Value → Prop) : Protocol := fun m s₀ v s kap =>
  KeptG K h₀ os₀ s₀ s ∧ (∃ T i y, v = .ref T ∧ T ∉ K ∧ h₀.get? T = none ∧ s.heap.get? T = some (tupO [i, y]) ∧ Out m y) ∧ ∀ s', Waits K os₀ s s' → kap (.send .none) s'
noncomputable def gP (K : List Addr) (h₀ : Heap) (os₀ : OsState) : Nat → Shared → Shared → Prop := fun n s₀ s => n = 0 ∧ KeptG K h₀ os₀ s₀ s
noncomputable def gR (K : List Addr) (h₀ : Heap) (os₀ : OsState) : GenEnd := fun n s₀ r s => r = .ok (.ret .none) ∧ gP K h₀ os₀ n s₀ s

section
variable {F : Fn} {G : GC F}
theorem Vw.other {F : Fn} {C C' : Cx F} {V : Vals} {H : Led} {s : Shared} (v : Vw C V H s) (h : C'.h₀ = C.h₀) (l : C'.L = C.L) (g : C'.g₀ = C.g₀) (o : C'.os₀ = C.os₀) : Vw C' V H s :=
  ⟨by rw [h, l]; exact v.fr, by rw [h, l]; exact v.nw, v.nd, by rw [g]; exact v.gens, by rw [o]; exact v.os⟩
theorem Vw.kept {A : Around} {ok : AOk G.n A} {V : Vals} {P gu : Led} {s₀ s : Shared} (v : Vw (G.cx A ok s₀.gens) V (P ++ gu) s) (hk : keys gu = G.K) (hg : ∀ p ∈ gu, s₀.heap.get? p.1 = some p.2) : KeptG G.K G.h₀ G.os₀ s₀ s := by
  refine ⟨fun k hm o e => ?_, v.fr.keep, v.gens, v.os⟩
  rw [← hk] at hm
  obtain ⟨p, hp, rfl⟩ := List.mem_map.mp hm
  have := hg p hp
  rw [e] at this
  rw [Option.some.inj this]
  exact v.at (List.mem_append_right P hp)
theorem guests {s : Shared} : ∀ {K : List Addr}, (∀ k ∈ K, ∃ o, s.heap.get? k = some o) → ∃ gu : Led, keys gu = K ∧ ∀ p ∈ gu, s.heap.get? p.1 = some p.2
  | [], _ => ⟨[], rfl, fun _ h => nomatch h⟩
  | k :: K, h => by
    obtain ⟨o, e⟩ := h k (.head _)
    obtain ⟨gu, hk, hg⟩ := guests (K := K) fun x hx => h x (.tail _ hx)
    refine ⟨(k, o) :: gu, by rw [keys, List.map_cons]; exact congrArg (k :: ·) hk, fun p hp => ?_⟩
    rcases List.mem_cons.mp hp with rfl | hp
    · exact e
    · exact hg p hp
theorem Vw.wake {A A' : Around} {ok : AOk G.n A} {ok' : AOk G.n A'} {V : Vals} {P gu : Led} {s₀ s s' : Shared} (v : Vw (G.cx A ok s₀.gens) V (P ++ gu) s) (hk : keys gu = G.K) (wt : Waits G.K G.os₀ s s') :
    ∃ gu', keys gu' = G.K ∧ (∀ p ∈ gu', s'.heap.get? p.1 = some p.2) ∧ Vw (G.cx A' ok' s'.gens) V (P ++ gu') s' := by
  obtain ⟨gu', hk', hg'⟩ := guests wt.guest
  have hnd := v.nd
  rw [List.map_append, List.nodup_append] at hnd
  have gk : ∀ p ∈ P, p.1 ∉ G.K := fun p hp hm => by
    rw [← hk] at hm
    exact hnd.2.2 _ (List.mem_map_of_mem hp) _ hm rfl
  have hin : ∀ k ∈ G.K, k ≠ G.L ∧ G.h₀.get? k = none := fun k hm => by
    rw [← hk] at hm
    obtain ⟨p, hp, rfl⟩ := List.mem_map.mp hm
    exact (v.nw p (List.mem_append_right P hp)).2
  have hL : G.L ∉ G.K := fun hm => (hin _ hm).1 rfl
  refine ⟨gu', hk', hg', ⟨?_, fun b o e => wt.keep b o (fun hm => by have := (hin b hm).2; rw [show G.h₀.get? b = some o from e] at this; cases this) (v.fr.keep b o e), v.fr.above⟩, fun p hp => ?_, ?_, .refl _, wt.os⟩
  · obtain ⟨oL, es, ep, hLL, r⟩ := v.fr.ns
    exact ⟨oL, es, ep, wt.keep _ _ hL hLL, r⟩
  · rcases List.mem_append.mp hp with q | q
    · have := v.nw p (List.mem_append_left gu q)
      exact ⟨wt.keep _ _ (gk p q) this.1, this.2⟩
    · have hm : p.1 ∈ G.K := by rw [← hk']; exact List.mem_map_of_mem q
      exact ⟨hg' p q, (hin _ hm).1, (hin _ hm).2⟩
  · rw [List.map_append]
    have e : gu'.map (·.1) = gu.map (·.1) := hk'.trans hk.symm
    rw [e]
    exact List.nodup_append.mpr hnd
end

section
variable {w : World} {A : Around} {E : Value → Shared → Prop} {s : Shared}
/-- next(g), the generator returning at its end -/
theorem pyNext_genQ {a : Addr} {g n : Nat} {gs : GenState} {P : Nat → Shared → Shared → Prop} {Y : Protocol} {Q : Option Value → Shared → Prop} (hh : A.handled = none)
    (hl : s.heap.NoLimit) (hroom : A.depth < recursionLimit)
    (hg : s.heap.IsGen a g) (hgs : s.gens[g]? = some gs)
    (hgo : gs.Goes (model prog w) A.in1 (fun n s₀ r s₁ => r = .ok (.ret .none) ∧ P n s₀ s₁) Y n (.send .none) (s.setGen g .running))
    (hY : ∀ v s₁ gs', gs'.bare = true → Y (n - 1) (s.setGen g .running) v s₁ (fun r' s'' => match n with
        | 0 => False
        | m + 1 => gs'.Goes (model prog w) A.in1 (fun n s₀ r s₁ => r = .ok (.ret .none) ∧ P n s₀ s₁) Y m r' s'') → Q (some v) (s₁.setGen g gs'))
    (hP : ∀ s₁, P n (s.setGen g .running) s₁ → ∀ h', (∀ b o, s₁.heap.get? b = some o → h'.get? b = some o) → Q none { s₁.setGen g .finished with heap := h' }) :
    wpAny (model prog w) A (pyNext (.ref a)) Q E s := by
  unfold pyNext
  refine wpAny_bind (wpAny_attempt (wpAny_callSpecial?_slot (name := Str.ofString "__next__") hg.typeIs slot_gen_next
    (wpAny_call_entry slot_gen_next hg.typeIs entry_gen_next ?_ (args_gen_next _))))
  show wpAny _ A.in1 (Builtin.Generator.genWake (.ref a) (.send .none)) _ _ s
  unfold Builtin.Generator.genWake
  refine wpAny_bind (wpAny_holding (wpAny_genNumber hg (wpAny_bind (wpAny_genState hgs ?_))))
  cases gs with
  | running => exact hgo.elim
  | finished => exact hgo.elim
  | _ =>
    refine wpAny_bind (wpAny_roomToWake hl hroom ?_)
    show wpAny _ A.in1 (.resume g (.send .none) [] _) _ _ s
    refine wpAny_resumeQ hgs hgo (fun x s₁ hx => ?_) (fun v s₁ gs' hb hv => ?_)
    · obtain ⟨rfl, hp⟩ := hx
      show wpAny _ A.in1 (newExc (.type "StopIteration") [] >>= _) _ _ _
      refine wpAny_bind ?_
      simp only [newExc, newTuple]
      refine wpAny_bind (wpAny_newObj_type ?_ (by size_fits))
      refine wpAny_bind (m := firstArgMember _ _) (wpAny_of_eq (a := Value.none) (by first | rfl | (simp only [firstArgMember]; rfl)) ?_)
      refine wpAny_newObj_type ?_ (by size_fits)
      simp only [raiseNew]
      refine wpAny_bind (wpAny_bind (wpAny_handled ?_))
      first | rw [show A.in1.handled = none from hh] | rw [hh]
      refine wpAny_throw ?_
      refine wpAny_bind (wpAny_isInstance (T := "StopIteration") (b := true) ⟨_, Heap.get?_push_size _ rfl, rfl⟩ isSubtype_stop ?_)
      exact wpAny_pure (hP s₁ hp _ fun b o hb => Heap.get?_push_of_some _ (Heap.get?_push_of_some _ hb))
    · exact wpAny_pure ⟨v, rfl, wpAny_pure (hY v s₁ gs' hb hv)⟩
end

/-! as W, what follows looks at the whole state -/
structure WS {F : Fn} (C : Cx F) {α : Type} (t : Sem α) (V : Vals) (H : Led) (Q : α → Shared → Prop) : Prop where
  run : ∀ s, Vw C V H s → wpAny (model prog C.w) C.A t Q (fun _ _ => False) s
section
variable {F : Fn} {C : Cx F} {V : Vals} {H : Led} {Q : Value → Shared → Prop}
theorem ws_then {α β : Type} {m : Sem α} {f : α → Sem β} {Q : β → Shared → Prop} (h : W C NoE m V H (fun a V' H' => WS C (f a) V' H' Q)) : WS C (m >>= f) V H Q :=
  .mk fun s v => wpAny_bind (wpAny_mono (h.run s v) (fun _ s' ⟨_, _, v', q⟩ => q.run s' v') fun _ _ ⟨_, _, _, x⟩ => x.elim)
theorem ws_MethodCall {o : Expr} {name : Str} {apos pos : Pos} {args : List Expr} {kws : List Keyword}
    (h : W C NoE (eval o C.env) V H (fun ov V1 H1 => W C NoE (getMethod ov name (do return (← importBound o C.env).getD true)) V1 H1 (fun fx V2 H2 => WS C (callWith pos fx.1 fx.2 (backTo pos (starEach args C.env)) (backToKw pos (keywordEach kws C.env))) V2 H2 Q)))
    (he : eval (.Call (.Attribute o name apos) args kws pos) C.env = (do
      let ov ← eval o C.env
      standAt apos.atName
      let (f, first) ← holding [ov] (getMethod ov name (do return (← importBound o C.env).getD true))
      callWith pos f first (backTo pos (starEach args C.env)) (backToKw pos (keywordEach kws C.env))) := by kernel_rfl) :
    WS C (eval (.Call (.Attribute o name apos) args kws pos) C.env) V H Q := by
  rw [he]
  exact ws_then (h.mono fun _ _ _ q => ws_then (w_standAt (ws_then (w_holding (q.mono fun fx V2 H2 q => q)))))
theorem ws_callWith_of {pos : Pos} {f : Value} {first : List Value} {args : List (Bool × Sem Value)} {keywords : List (Option Str × Sem Value)} (hplain : (args.any (·.1) || keywords.any (·.1.isNone)) = false)
    (h : W C NoE (evalArgs f true args keywords) V H (fun a V1 H1 => Kept C H1 f ∧ WS C (call f (first ++ a.pos) a.kw) V1 H1 Q)) : WS C (callWith pos f first args keywords) V H Q := by
  unfold callWith
  refine ws_then (w_holding (h.mono fun a V1 H1 q => ws_then (w_standAt ?_)))
  refine .mk fun s v => ?_
  obtain ⟨k, hk', L⟩ := q.1 V1 s v
  simp only [hplain]
  refine wpAny_bind (L.here ?_)
  have tail : ∀ {t : Sem Value}, WS C t V1 H1 Q → wpAny (model prog C.w) C.A (t >>= fun r => PySem.holding [r] point >>= fun _ => Pure.pure r) Q (fun _ _ => False) s :=
    fun ht => wpAny_bind (wpAny_mono (ht.run s v) (fun r s1 q => wpAny_bind (wpAny_holding (wpAny_point (wpAny_pure q)))) fun _ _ x => x)
  have marked (mk : Value) : WS C (callMarked mk f (first ++ a.pos) a.kw) V1 H1 Q := by unfold callMarked; exact .mk fun s v => Calls.wpAny_keep (q.2.run s v)
  rcases hk' with rfl | rfl | rfl <;> dsimp only <;> first | exact tail q.2 | (split <;> first | exact tail q.2 | exact tail (marked _))
theorem ws_cwK {pos : Pos} {f : Value} {first : List Value} {e kx : Expr} {kp : Pos} {rest : List Expr} {name : Str}
    (h : W C NoE (spliced (backTo pos (starEach (e :: rest) C.env))) V H (fun vs V1 H1 => W C NoE (eval kx C.env) V1 H1 (fun kv V2 H2 => Kept C H2 f ∧ WS C (call f (first ++ vs) [(name, kv)]) V2 H2 Q)))
    (he : starEach (e :: rest) C.env = (false, eval e C.env) :: starEach rest C.env := by kernel_rfl) (hplain : (backTo pos (starEach rest C.env)).any (·.1) = false := by kernel_rfl) :
    WS C (callWith pos f first (backTo pos (starEach (e :: rest) C.env)) (backToKw pos (keywordEach [⟨some name, kx, kp⟩] C.env))) V H Q := by
  rw [he] at h ⊢
  have ek : keywordEach [⟨some name, kx, kp⟩] C.env = [(some name, eval kx C.env)] := rfl
  rw [ek]
  refine ws_callWith_of (by show ((false || (backTo pos (starEach rest C.env)).any (·.1)) || false) = false; rw [hplain]; rfl) (w_evalArgsK (h.mono fun vs V1 H1 q => w_bind (q.mono fun kv V2 H2 q2 => w_bind (w_standAt (w_pure q2)))))
end
-- part Ge3
/-! all that stands beside -/
noncomputable def others (h₀ h : Heap) (ex : List Addr) : Led := (List.range h.objs.size).filterMap fun (a : Nat) => if a ∈ ex ∨ (h₀.get? a).isSome = true then none else (h.get? a).map fun o => (a, o)
theorem mem_others {h₀ h : Heap} {ex : List Addr} {p : Addr × Obj} : p ∈ others h₀ h ex ↔ p.1 ∉ ex ∧ h₀.get? p.1 = none ∧ h.get? p.1 = some p.2 := by
  unfold others
  rw [List.mem_filterMap]
  constructor
  · rintro ⟨a, ha, e⟩
    by_cases q : a ∈ ex ∨ (h₀.get? a).isSome = true
    · rw [if_pos q] at e; cases e
    · rw [if_neg q] at e
      cases eo : h.get? a with
      | none => rw [eo] at e; cases e
      | some o =>
        rw [eo] at e
        cases e
        exact ⟨fun hm => q (.inl hm), by cases e0 : h₀.get? a with
          | none => rfl
          | some o => exact absurd (.inr (by rw [e0]; rfl)) q, eo⟩
  · rintro ⟨h1, h2, h3⟩
    refine ⟨p.1, List.mem_range.mpr (Heap.lt_size h3), ?_⟩
    rw [if_neg (by rintro (q | q); exact h1 q; rw [h2] at q; cases q), h3]
    rfl
theorem others_nd (h₀ h : Heap) (ex : List Addr) : ((others h₀ h ex).map (·.1)).Nodup := by
  have key : ∀ l : List Nat, ((l.filterMap fun (a : Nat) => if a ∈ ex ∨ (h₀.get? a).isSome = true then none else (h.get? a).map fun o => ((a : Addr), o)).map (·.1)).Sublist l := by
    intro l
    induction l with
    | nil => exact .slnil
    | cons a l ih =>
      rw [List.filterMap_cons]
      by_cases q : a ∈ ex ∨ (h₀.get? a).isSome = true
      · rw [if_pos q]; exact .cons _ ih
      · rw [if_neg q]
        cases h.get? a with
        | none => exact .cons _ ih
        | some o => exact .cons_cons _ ih
  exact (key _).nodup List.nodup_range

theorem GensOk.set {a b : Array GenState} (h : GensOk a b) {g : Nat} (hg : a.size ≤ g) {x : GenState} (hx : x.bare = true) : GensOk a (b.setIfInBounds g x) := by
  refine ⟨fun i y e => ?_, fun i y hi e => ?_⟩
  · have hlt := (Array.getElem?_eq_some_iff.mp e).1
    rw [Array.getElem?_setIfInBounds_ne (by omega)]
    exact h.1 i y e
  · by_cases q : g = i
    · subst q
      rw [Array.getElem?_setIfInBounds] at e
      simp only [if_true] at e
      split at e
      · cases e; exact hx
      · cases e
    · rw [Array.getElem?_setIfInBounds_ne q] at e
      exact h.2 i y hi e

/-- a generator just made, not asked yet -/
structure FreshGen (Fg : Fn) (V₀ : Vals) (body : List Stmt) (s s1 : Shared) (a g L : Addr) : Prop where
  gen : s1.heap.IsGen a g
  gs : s1.gens[g]? = some (.fresh (.func body (callEnv Fg.fd L Fg.addr)))
  ns : s1.heap.Ns L (slot Fg.names V₀)
  keep : ∀ b o, s.heap.get? b = some o → s1.heap.get? b = some o
  newA : s.heap.get? a = none
  newL : s.heap.objs.size ≤ L
  ne : a ≠ L
  gn : s.gens.size ≤ g
  gens : GensOk s.gens s1.gens
  os : s1.os = s.os

section
variable {Fx : Fn} {C : Cx Fx} {E : Value → Vals → Led → Prop} {V : Vals} {H : Led}
set_option maxHeartbeats 1000000 in
/-- a comprehension over a fresh generator whose items are pairs -/
theorem w_LCgen {F' : Fn} (ok' : FnOk F') {elt target iter : Expr} {sc : Scope} {cl : List (Str × Addr)} {pos : Pos} {Q : Value → Vals → Led → Prop}
    (hmk : ∀ L, F'.mkE L C.L = { newEnv sc L C.env.globals cl C.env.qual none .none (some C.env) builtinsNs with scope := relabel sc C.env }) (hsc : sc.kind = .function)
    (hcell : (sc.names.all fun x => x.2 != .cell) = true) (hnames : (sc.names.all fun x => x.2 != .local || sc.names.lookup x.1 == some .local) = true) (hclos : closureFor sc C.env = pure cl)
    {Fg : Fn} {V₀ : Vals} {body : List Stmt} {N : Nat} {Out : Nat → Value → Prop} (hN : N ≤ 100000)
    (h : WS C (eval iter C.env) V H (fun x s1 => ∃ s V1 H1 a g L, x = .ref a ∧ Vw C V1 H1 s ∧ FreshGen Fg V₀ body s s1 a g L ∧
      (∀ (K : List Addr) (s2 : Shared), K.Nodup → (∀ k ∈ K, s.heap.get? k = none ∧ k ≠ L) → (∀ k ∈ K, ∃ o, s2.heap.get? k = some o) → (∀ b o, s.heap.get? b = some o → s2.heap.get? b = some o) → s2.heap.Ns L (slot Fg.names V₀) → s2.os = s.os →
        (GenState.fresh (.func body (callEnv Fg.fd L Fg.addr))).Goes (model prog C.w) C.A.in1 (gR K s.heap s.os) (gY K s.heap s.os Out) N (.send .none) s2) ∧
      (∀ D ws, ws.length = N → (∀ j y, ws[j]? = some y → Out (N - 1 - j) y) → Q (.ref D) V1 ((D, listO ws ws.length) :: H1))))
    (step : ∀ (C' : Cx F') V' H' T i y, C'.w = C.w → (T, tupO [i, y]) ∈ H' → V'.length = F'.names.length →
      W C' NoE (assign target C'.env (.ref T)) V' H' (fun _ V2 H2 => W C' NoE (eval elt C'.env) V2 H2 (fun z V3 H3 => z = y ∧ V3.length = F'.names.length ∧ SubP H' H3)))
    (hfold : ∀ x, foldedSetIterable iter C.env x = Pure.pure x := by intro _; kernel_rfl) (ht : ∀ it v, letOwnedTupleGo target it v = Pure.pure () := by intro _ _; rfl) :
    W C E (eval (.ListComp elt [⟨target, iter, [], 0⟩] sc pos) C.env) V H Q := .mk fun s00 v00 => by
  have hc : ∀ x ∈ sc.names, x.2 ≠ .cell := fun x hx e => by have := List.all_eq_true.mp hcell x hx; rw [e] at this; simp at this
  have hn : ∀ x ∈ sc.names, x.2 = .local → sc.names.lookup x.1 = some .local := fun x hx e => by
    have := List.all_eq_true.mp hnames x hx
    rw [e] at this
    simpa using this
  rw [eval_ListComp]
  refine wpAny_comprehension_free (use := none) rfl hfold hclos hsc hn (wpAny_mono (h.run s00 v00) (fun x s1 ⟨s, V1, H1, a, g, L, hx, v, fg, goes, fin⟩ => ?_) fun _ _ x => x.elim)
  subst hx
  refine wpAny_pyIter_gen fg.gen ?_
  refine wpAny_newObj_type ?_ (by show (#[] : Array Value).size ≤ sizeLine; exact Nat.zero_le _)
  refine wpAny_newFunctionEnv hc (fun _ hx => nomatch hx) (fun h4 hns hsb => ?_) hsc
  have e0 : (fun x : Str => ([] : List (Str × Value)).reverse.lookup x) = slot F'.names (List.replicate F'.names.length none) := by rw [slot_none]; rfl
  rw [e0] at hns
  obtain ⟨D, hD⟩ : ∃ D : Nat, D = s1.heap.objs.size := ⟨_, rfl⟩
  obtain ⟨Lc, hLc⟩ : ∃ Lc : Nat, Lc = (s1.heap.push (listO [] 0)).objs.size := ⟨_, rfl⟩
  have hLc' : Lc = D + 1 := by rw [hLc, Heap.size_push, hD]
  have hDe : ({ cls := .type "list", data := .seq #[] 0 } : Obj) = listO [] 0 := rfl
  rw [← hLc] at hns hsb
  have g1 : ∀ b o, s1.heap.get? b = some o → h4.get? b = some o := fun b o e => by
    have hb : @LT.lt Nat instLTNat b D := by rw [hD]; exact Heap.lt_size e
    have : h4.get? b = _ := hsb.2 b (by show @Ne Nat b Lc; omega)
    rw [this]
    exact Heap.get?_push_of_some _ (Heap.get?_push_of_some _ e)
  have g3 : h4.get? D = some (listO [] 0) := by
    have : h4.get? D = _ := hsb.2 _ (by show @Ne Nat D Lc; omega)
    rw [this]
    refine Heap.get?_push_of_some _ ?_
    rw [hD]
    exact Heap.get?_push_size s1.heap (o := listO [] 0) rfl
  have none_s : ∀ k : Nat, s.heap.objs.size ≤ k → s.heap.get? k = none := fun k hk => by
    cases e : s.heap.get? k with
    | none => rfl
    | some o => exact absurd (Nat.lt_of_lt_of_le (Heap.lt_size e) hk) (Nat.lt_irrefl _)
  have hLlt : @LT.lt Nat instLTNat L D := by rw [hD]; exact fg.ns.lt
  have hnL : @LE.le Nat instLENat s.heap.objs.size L := fg.newL
  have hsD : s.heap.objs.size ≤ D := by omega
  have hsLc : s.heap.objs.size ≤ Lc := by omega
  have haD : @LT.lt Nat instLTNat a D := by obtain ⟨o, _, _, ho, _⟩ := fg.gen; rw [hD]; exact Heap.lt_size ho
  have nD : s.heap.get? D = none := none_s _ hsD
  have nLc : s.heap.get? Lc = none := none_s _ hsLc
  let K : List Addr := [Lc, D, a]
  have hKd : K.Nodup := by
    show [Lc, D, a].Nodup
    have h1 : Lc ≠ D := by omega
    have h2 : @Ne Nat Lc a := by omega
    have h3 : @Ne Nat D a := by omega
    simp [h1, h2, h3]
  have hKn : ∀ k ∈ K, s.heap.get? k = none ∧ k ≠ L := fun k hk => by
    rcases List.mem_cons.mp hk with q | hk
    · rw [q]; exact ⟨nLc, by show @Ne Nat Lc L; omega⟩
    · rcases List.mem_cons.mp hk with q | hk
      · rw [q]; exact ⟨nD, by show @Ne Nat D L; omega⟩
      · rcases List.mem_cons.mp hk with q | hk
        · rw [q]; exact ⟨fg.newA, fg.ne⟩
        · cases hk
  let cx : Array GenState → Cx F' := fun g₀ => { w := C.w, A := C.A, L := Lc, h₀ := s.heap, g₀, os₀ := s.os, n := C.n, aok := C.aok, base := v.base, out := C.L }
  have en : ∀ g₀, (cx g₀).env = { newEnv sc Lc C.env.globals cl C.env.qual none .none (some C.env) builtinsNs with scope := relabel sc C.env } := fun _ => hmk _
  have stepO : ∀ {ws : List Value} {V' : Vals} {st : Shared} {X : Led}, Vw (cx st.gens) V' ((D, listO ws ws.length) :: X) st → st.heap.get? D = some (listO ws ws.length) := fun v => v.at (.head _)
  have hbody : codeAny (model prog C.w) C.A (.compLoop (.ListComp elt [⟨target, iter, [], 0⟩] sc pos) 0 (.ref a) (.ref D) (cx s1.gens).env)
      (compPost (model prog C.w) C.A (fun e s' => ∃ V' H', Vw C V' H' s' ∧ E e V' H') none (fun a s' => ∃ V' H', Vw C V' H' s' ∧ Q a V' H') (.ref D) Lc) { s1 with heap := h4 } := by
    refine PySem.codeAny_compLoop_tests (fun n st => ∃ (ws : List Value) (V' : Vals) (gs : GenState), V'.length = F'.names.length ∧ st.heap.Ns Lc (slot F'.names V') ∧ (∀ b o, s.heap.get? b = some o → st.heap.get? b = some o) ∧ st.heap.get? D = some (listO ws ws.length) ∧
        st.heap.IsGen a g ∧ GensOk s.gens st.gens ∧ st.gens[g]? = some gs ∧ st.os = s.os ∧ ws.length + n = N ∧ (∀ j y, ws[j]? = some y → Out (N - 1 - j) y) ∧
        ∀ s2, Waits K s.os st s2 → gs.Goes (model prog C.w) C.A.in1 (gR K s.heap s.os) (gY K s.heap s.os Out) n (.send .none) s2) ?_ N ?_ (ht _)
    · rintro n st ⟨ws, V', gs, hV', hns', hkeep, hDl, hgen, hgens, hgs, hos, hlen, hout, hgoes⟩
      have hself : Waits K s.os st (st.setGen g .running) := ⟨fun _ _ _ e => e, fun k hk => by
        rcases List.mem_cons.mp hk with q | hk
        · obtain ⟨o, _, _, e, _⟩ := hns'; rw [q]; exact ⟨o, e⟩
        · rcases List.mem_cons.mp hk with q | hk
          · rw [q]; exact ⟨_, hDl⟩
          · rcases List.mem_cons.mp hk with q | hk
            · obtain ⟨o, _, _, e, _⟩ := hgen; rw [q]; exact ⟨o, e⟩
            · exact (nomatch hk), hos⟩
      have hgens1 : GensOk s.gens (st.setGen g .running).gens := hgens.set fg.gn rfl
      refine pyNext_genQ (P := gP K s.heap s.os) (Y := gY K s.heap s.os Out) (n := n) C.aok.hnd (v.base.lim.keeps hkeep) (by have := C.aok.dep; show C.A.depth < 1000; omega) hgen hgs (hgoes _ hself) (fun vv s5 gs' hb hY => ?_) (fun s5 hP h' hk => ?_)
      · obtain ⟨kg, ⟨T, i, y, rfl, hTK, hT0, hT, hOut⟩, kap⟩ := hY
        have ws5 : Waits K s.os s5 s5 := ⟨fun _ _ _ e => e, fun k hk => by obtain ⟨o, e⟩ := hself.guest k hk; exact ⟨o, kg.guest k hk o e⟩, kg.os⟩
        cases n with
        | zero => exact (kap s5 ws5).elim
        | succ m =>
          have kap' : ∀ s', Waits K s.os s5 s' → gs'.Goes (model prog C.w) C.A.in1 (gR K s.heap s.os) (gY K s.heap s.os Out) m (.send .none) s' := kap
          have ns5 : s5.heap.Ns Lc (slot F'.names V') := by
            obtain ⟨oL, es, ep, e, r⟩ := hns'
            exact ⟨oL, es, ep, kg.guest Lc (.head _) oL e, r⟩
          have hD5 : s5.heap.get? D = some (listO ws ws.length) := kg.guest D (.tail _ (.head _)) _ hDl
          have hA5 : s5.heap.IsGen a g := by
            obtain ⟨o, nm, qn, ho, r⟩ := hgen
            exact ⟨o, nm, qn, kg.guest a (.tail _ (.tail _ (.head _))) o ho, r⟩
          have hg5 : s5.gens[g]? = some .running := kg.gens.1 _ _ (setGen_self hgs)
          have hg6 : (s5.setGen g gs').gens[g]? = some gs' := setGen_self hg5
          have gens6 : GensOk s.gens (s5.setGen g gs').gens := (hgens1.trans kg.gens).set fg.gn hb
          have v6 : Vw (cx (s5.setGen g gs').gens) V' ((D, listO ws ws.length) :: others s.heap s5.heap [Lc, D]) (s5.setGen g gs') := by
            refine ⟨⟨ns5, kg.old, hsLc⟩, fun p hp => ?_, List.nodup_cons.mpr ⟨fun hm => ?_, others_nd _ _ _⟩, .refl _, kg.os⟩
            · rcases List.mem_cons.mp hp with rfl | hp
              · exact ⟨hD5, by show @Ne Nat D Lc; omega, nD⟩
              · have := mem_others.mp hp
                exact ⟨this.2.2, fun e => this.1 (by rw [e]; exact .head _), this.2.1⟩
            · obtain ⟨p, hp, e⟩ := List.mem_map.mp hm
              exact (mem_others.mp hp).1 (by rw [e]; exact .tail _ (.head _))
          have hTm : (T, tupO [i, y]) ∈ (D, listO ws ws.length) :: others s.heap s5.heap [Lc, D] := .tail _ (mem_others.mpr ⟨fun hm => hTK (by
            rcases List.mem_cons.mp hm with q | hm
            · rw [show T = Lc from q]; exact .head _
            · rcases List.mem_cons.mp hm with q | hm
              · rw [show T = D from q]; exact .tail _ (.head _)
              · cases hm), hT0, hT⟩)
          have key := (step (cx (s5.setGen g gs').gens) V' _ T i y rfl hTm hV').run _ v6
          refine wpAny_mono key (fun _ s6 ⟨V6, H6, v6', k6⟩ => ?_) fun _ _ ⟨_, _, _, x⟩ => x.elim
          rw [List.forIn_nil]
          refine wpAny_pure ?_
          rw [if_pos rfl]
          refine wpAny_mono (k6.run s6 v6') (fun z s7 ⟨V7, H7, v7, hz, hV7, hS⟩ => ?_) fun _ _ ⟨_, _, _, x⟩ => x.elim
          subst hz
          have v8 := v7.subP hS
          refine append_at (v8.at (.head _)) (fun h' sb e => ?_) (line_le (by simp; omega))
          have v9 := v8.upd .head sb e
          have el : listO (ws ++ [z]) (ws ++ [z]).length = { cls := .type "list", data := .seq (ws.toArray.push z) (ws.length + 1) } := by simp [listO]
          have v9at := v9.at (.head _)
          have wt : Waits K s.os s5 { s7 with heap := h' } := by
            refine ⟨fun b o hb e => ?_, fun k hk => ?_, v9.os⟩
            · cases e0 : s.heap.get? b with
              | some o0 =>
                have h1 := kg.old b o0 e0
                rw [e] at h1
                rw [Option.some.inj h1]
                exact v9.fr.keep b o0 e0
              | none =>
                refine v9.at (.tail _ (mem_others.mpr ⟨fun hm => hb ?_, e0, e⟩))
                rcases List.mem_cons.mp hm with q | hm
                · rw [show b = Lc from q]; exact .head _
                · rcases List.mem_cons.mp hm with q | hm
                  · rw [show b = D from q]; exact .tail _ (.head _)
                  · cases hm
            · rcases List.mem_cons.mp hk with q | hk
              · obtain ⟨o, _, _, e, _⟩ := v9.fr.ns; rw [q]; exact ⟨o, e⟩
              · rcases List.mem_cons.mp hk with q | hk
                · rw [q]; exact ⟨_, v9at⟩
                · rcases List.mem_cons.mp hk with q | hk
                  · obtain ⟨o, _, _, ho, _⟩ := hA5
                    rw [q]
                    refine ⟨o, v9.at (.tail _ (mem_others.mpr ⟨fun hm => ?_, fg.newA, ho⟩))⟩
                    rcases List.mem_cons.mp hm with q | hm
                    · have q' : @Eq Nat a Lc := q; omega
                    · rcases List.mem_cons.mp hm with q | hm
                      · have q' : @Eq Nat a D := q; omega
                      · cases hm
                  · cases hk
          refine ⟨m, Nat.lt_succ_self _, ws ++ [z], V7, gs', hV7, v9.fr.ns, v9.fr.keep, ?_, ?_, gens6.trans v9.gens, v9.gens.1 _ _ hg6, v9.os, by rw [List.length_append]; simp only [List.length_cons, List.length_nil]; omega, ?_, fun s2 w2 => kap' s2 (wt.trans w2)⟩
          · rw [el]; exact e
          · obtain ⟨o, nm, qn, ho, r⟩ := hA5
            refine ⟨o, nm, qn, v9.at (.tail _ (mem_others.mpr ⟨fun hm => ?_, fg.newA, ho⟩)), r⟩
            rcases List.mem_cons.mp hm with q | hm
            · have q' : @Eq Nat a Lc := q; omega
            · rcases List.mem_cons.mp hm with q | hm
              · have q' : @Eq Nat a D := q; omega
              · cases hm
          · intro j y hj
            by_cases q : j < ws.length
            · rw [List.getElem?_append_left q] at hj
              exact hout j y hj
            · have hj' : j = ws.length := by
                have := (List.getElem?_eq_some_iff.mp hj).1
                rw [List.length_append] at this
                simp only [List.length_cons, List.length_nil] at this
                omega
              subst hj'
              rw [List.getElem?_append_right (Nat.le_refl _), Nat.sub_self] at hj
              have e3 : z = y := by simpa using hj
              subst e3
              have e4 : N - 1 - ws.length = m + 1 - 1 := by omega
              rw [e4]
              exact hOut
      · obtain ⟨hn0, kg⟩ := hP
        subst hn0
        have ns5 : h'.Ns Lc (slot F'.names V') := by
          obtain ⟨oL, es, ep, e, r⟩ := hns'
          exact ⟨oL, es, ep, hk _ _ (kg.guest Lc (.head _) oL e), r⟩
        refine ⟨_, ns5, fun h'' hsb' => ?_⟩
        have hD5 : h''.get? D = some (listO ws ws.length) := (hsb'.2 D (by show @Ne Nat D Lc; omega)).trans (hk _ _ (kg.guest D (.tail _ (.head _)) _ hDl))
        have keepAll : ∀ b o, s.heap.get? b = some o → h''.get? b = some o := fun b o e => (hsb'.2 b (fun q => by rw [q, nLc] at e; cases e)).trans (hk _ _ (kg.old b o e))
        have vk := v.keeps keepAll
        refine ⟨V1, (D, listO ws ws.length) :: H1, ⟨vk.fr, fun p hp => ?_, List.nodup_cons.mpr ⟨fun hm => ?_, v.nd⟩, v.gens.trans ((hgens1.trans kg.gens).set fg.gn rfl), kg.os.trans v.os⟩, fin D ws (by omega) hout⟩
        · rcases List.mem_cons.mp hp with rfl | hp
          · refine ⟨hD5, fun e => ?_, ?_⟩
            · obtain ⟨oL, es, ep, hLL, r⟩ := v.fr.ns
              rw [← e] at hLL
              have hLL' : s.heap.get? D = some oL := hLL
              rw [nD] at hLL'; cases hLL'
            · cases q' : C.h₀.get? D with
              | none => rfl
              | some o => have := v.old q'; rw [nD] at this; cases this
          · exact vk.nw p hp
        · obtain ⟨q, hq, e⟩ := List.mem_map.mp hm
          have y := v.at hq
          have e2 : q.1 = D := e
          rw [e2, nD] at y
          cases y
    · refine ⟨[], List.replicate F'.names.length none, _, by simp, hns, fun b o e => g1 b o (fg.keep b o e), g3, fg.gen.keeps g1, fg.gens, fg.gs, fg.os, by simp, fun j y hj => by simp at hj, fun s2 w2 => ?_⟩
      refine goes K s2 hKd hKn w2.guest (fun b o e => w2.keep b o (fun hm => by rw [(hKn b hm).1] at e; cases e) (g1 b o (fg.keep b o e))) ?_ w2.os
      obtain ⟨oL, es, ep, e, r⟩ := fg.ns
      exact ⟨oL, es, ep, w2.keep _ _ (fun hm => (hKn _ hm).2 rfl) (g1 _ _ e), r⟩
  rw [en, hD, hLc] at hbody
  refine PySem.codeAny_compStart_list hbody ?_
  exact wpAny_pyIter_gen (fg.gen.keeps g1) hbody
end
-- part Ge4
section
variable {Fx : Fn} {C : Cx Fx} {V : Vals} {H : Led} {Q : Value → Shared → Prop}
/-- a generator def of the text, called -/
theorem ws_callGen {F : Fn} {body : List Stmt} {args : List Value} {kw : List (Str × Value)} {vals : List Value} {V₀ : Vals}
    (hF : FnIs C.w F) (hbody : F.fd.body = .stmts body) (hgen : F.fd.scope.isGenerator = true)
    (hbind : ∀ s, Vw C V H s → BindsTo s F.fd ⟨args, kw⟩ ((F.names.take vals.length).zip vals)) (hl : vals.length ≤ F.names.length) (hV : vals.map some ++ List.replicate (F.names.length - vals.length) none = V₀)
    (h : ∀ s s1 a g L, Vw C V H s → FreshGen F V₀ body s s1 a g L → Q (.ref a) s1) : WS C (call (.ref F.addr) args kw) V H Q := .mk fun s v => by
  have hdep := C.aok.dep
  have hkin := C.base.kin
  have hkin' := hkin
  refine wpAny_call ?_
  refine codeAny_call_generator (fd := F.fd) (body := body) (by show C.A.depth < 1000; omega) (v.old (hkin _ _ hF.at_)) rfl hF.co hgen hbody (codeRec_of (C.base.keeps v.fr.keep).kin hF.cd) ?_
  refine hbind s v _ _ _ _ ?_
  refine wpAny_newFunctionEnv (fun x hx e => by have := List.all_eq_true.mp hF.cell x hx; rw [e] at this; cases this) (fun x hx => hF.ok.loc _ (List.mem_of_mem_take (List.of_mem_zip (a := x.1) (b := x.2) hx).1)) (fun h' hns hsb => ?_) hF.ok.kind
  have keep : ∀ b o, s.heap.get? b = some o → h'.get? b = some o := fun b o e => hsb.extBut b o (Nat.ne_of_lt (Heap.lt_size e)) (Heap.get?_push_of_some _ e)
  have hsz : @Eq Nat h'.objs.size (s.heap.objs.size + 1) := by rw [hsb.1, Heap.size_push]
  refine ⟨v.base.lim.keeps keep, ?_⟩
  refine h s _ _ s.gens.size s.heap.objs.size v ⟨⟨_, _, _, Heap.get?_push_size _ rfl, rfl, rfl, rfl⟩, ?_, ?_, fun b o e => Heap.get?_push_of_some _ (keep b o e), ?_, Nat.le_refl _, ?_, Nat.le_refl _, ?_, rfl⟩
  · exact Array.getElem?_push_size ..
  · have e : (fun x => ((F.names.take vals.length).zip vals).reverse.lookup x) = slot F.names V₀ := funext fun x => by rw [revlook hF.ok.nd hl, hV]
    rw [e] at hns
    exact hns.push _
  · cases e : s.heap.get? h'.objs.size with
    | none => rfl
    | some o => have : @LT.lt Nat instLTNat h'.objs.size s.heap.objs.size := Heap.lt_size e; omega
  · show @Ne Nat h'.objs.size s.heap.objs.size
    omega
  · refine ⟨fun i x e => ?_, fun i x hi e => ?_⟩
    · show (s.gens.push _)[i]? = some x
      rw [Array.getElem?_push, if_neg (by have := (Array.getElem?_eq_some_iff.mp e).1; omega)]
      exact e
    · have e' : (s.gens.push (GenState.fresh (Code.func body (callEnv F.fd s.heap.objs.size F.addr))))[i]? = some x := e
      rw [Array.getElem?_push] at e'
      split at e'
      · cases e'; rfl
      · have := (Array.getElem?_eq_some_iff.mp e').1
        omega
end

/-! the body of a generator, walked -/
section
variable {F : Fn} {w : World} {A : Around} {R : GenEnd} {Y : Protocol} {n : Nat} {s₀ : Shared} {c : Code} {fs : List Frame} {s : Shared}
  {K : Flow → Sem Fin} {Hh : Value → Sem Fin} {gd : Bool → Bool} {lv : List Value → List Value}
/-- a piece without a yield -/
theorem seg_w {α : Type} {C : Cx F} {m : Sem α} {K : α → Sem Fin} {V : Vals} {H : Led} {Q : α → Vals → Led → Prop} (hw : C.w = w) (hA : C.A = A.over c fs) (hW : W C NoE m V H Q) (v : Vw C V H s)
    (k : ∀ a V' H' s', Vw C V' H' s' → Q a V' H' → Seg (model prog w) A R Y n s₀ c (K a) fs s') : Seg (model prog w) A R Y n s₀ c (m.wrap K Hh gd lv) fs s := by
  subst hw
  have key := hW.run s v
  rw [hA] at key
  exact seg_wrap (wpAny_mono key (fun a s' ⟨V', H', v', q⟩ => k a V' H' s' v' q) fun _ _ ⟨_, _, _, x⟩ => x.elim)
theorem wp_w {α : Type} {C : Cx F} {m : Sem α} {V : Vals} {H : Led} {Q : α → Vals → Led → Prop} {Φ : α → Shared → Prop} {E : Value → Shared → Prop} (hw : C.w = w) (hA : C.A = A) (hW : W C NoE m V H Q) (v : Vw C V H s)
    (k : ∀ a V' H' s', Vw C V' H' s' → Q a V' H' → Φ a s') : wpAny (model prog w) A m Φ E s := by
  subst hw
  subst hA
  exact wpAny_mono (hW.run s v) (fun a s' ⟨V', H', v', q⟩ => k a V' H' s' v' q) fun _ _ ⟨_, _, _, x⟩ => x.elim
end
-- part F23
/-! unpack_from_any: a generator -/
theorem sizes_cons (g : G) (r : List G) : sizes (g :: r) = g.size + sizes r := rfl
theorem AOk.in1 {n : Nat} {A : Around} (h : AOk (n + 1) A) : AOk n A.in1 :=
  ⟨h.hnd, by have := h.dep; show A.depth + n ≤ 900; omega, by have := h.uni; show A.units + 1 + 8 * n ≤ 9000; omega, h.fr, h.gd⟩
section
variable {F : Fn} {C : Cx F} {E : Value → Vals → Led → Prop} {V : Vals} {H : Led}
theorem w_next_list {it l : Addr} {o ol : Obj} {i : Nat} {vs : List Value} {x : Value} {Q : Option Value → Vals → Led → Prop} (hP : LIt l i o) (hl : Has C H l ol) (lo : LO ol vs) (hx : vs[i]? = some x) (h : ∀ o', LIt l (i + 1) o' → Q (some x) V ((it, o') :: H)) :
    W C E (pyNext (.ref it)) V ((it, o) :: H) Q := .mk fun s v =>
  wpAny_pyNext_list_item ⟨o, v.at (.head _), hP.1, hP.2⟩ (lo.isList (hl.cons.at v)) (by simpa using hx) fun h' ⟨o', e, c, d⟩ sb => ⟨V, _, v.upd .head sb e, h o' ⟨c, d⟩⟩
theorem w_end_list {it l : Addr} {o ol : Obj} {vs : List Value} {Q : Option Value → Vals → Led → Prop} (hP : LIt l vs.length o) (hl : Has C H l ol) (lo : LO ol vs) (h : Q none V H) :
    W C E (pyNext (.ref it)) V ((it, o) :: H) Q := .mk fun s v =>
  wpAny_pyNext_list_end C.aok.hnd ⟨o, v.at (.head _), hP.1, hP.2⟩ (lo.isList (hl.cons.at v)) (by simp) fun h' e => ⟨V, H, v.extBut rfl e, h⟩
end
theorem pieceOf {F : Fn} {G : GC F} {A : Around} {ok : AOk G.n A} {g₀ : Array GenState} {α : Type} {f : Env → Sem α} {V : Vals} {H : Led} {Q : α → Vals → Led → Prop}
    (P : ∀ C : Cx F, C.w = G.w → C.n = G.n → C.h₀ = G.h₀ → W C NoE (f C.env) V H Q) (ho : ∀ L, F.mkE L = fun _ => F.mkE L 0) : W (G.cx A ok g₀) NoE (f G.env) V H Q := P _ rfl rfl rfl
noncomputable def outOf (bs : List PV) (m : Nat) (y : Value) : Prop := ∃ p, bs[bs.length - 1 - m]? = some p ∧ p.Is y
noncomputable def upfaT : Expr × Expr × List Stmt := match bodyOf (fdAt 438) with
  | [_, _, _, .For t i b _ _] => (t, i, b)
  | _ => (.Constant .none 0 default, .Constant .none 0 default, [])
noncomputable abbrev upfaV (x : Addr) (data : List UInt8) (t1 : Tok) (off : Nat) (t4 : Tok) (allow : Bool) (bits : List Bool) (t3 : Tok) (q : List (Option Value)) : Vals :=
  some (.ref x) :: some (.bytes data.toArray t1) :: some (.int off t4) :: some (.bool allow) :: some (.str (S (chs bits)) t3) :: q
theorem Infos.get {is : List II} {gs : List G} {Li : Led} (hI : Infos is Li) (hS : is.map II.spec = specOf 0 gs) {i : Nat} {g : G} (hg : gs[i]? = some g) :
    ∃ j, (irefs is)[i]? = some (.ref j.x) ∧ IOk j ∧ (j.x, instObj (clsK j.kd) j.dx) ∈ Li ∧ (j.dx, j.od) ∈ Li ∧ j.kd = g.kind ∧ j.size = g.size ∧ j.little = g.little := by
  have hlen : is.length = gs.length := by have := congrArg List.length hS; rwa [List.length_map, specOf_len] at this
  have hlt := (List.getElem?_eq_some_iff.mp hg).1
  have hj : is[i]? = some (is[i]'(by omega)) := List.getElem?_eq_getElem (by omega)
  obtain ⟨g', hg', e1, e2, e3, e4⟩ := info_at hS hj
  rw [hg] at hg'
  cases hg'
  obtain ⟨a, b, c⟩ := hI.at _ (List.mem_of_getElem? hj)
  refine ⟨_, ?_, a, b, c, e1, e2, e3⟩
  unfold irefs
  rw [List.getElem?_map, hj]; rfl
noncomputable abbrev upK (c : Code) : Flow → Sem Fin := fun f => match f with
  | .next | .cont => .pure (.again c)
  | .brk => .pure (.done .next)
  | .ret v => .pure (.done (.ret v))
noncomputable abbrev upH (env : Env) : Value → Sem Fin := fun e => (do noteFrame e env; theTreesLotGoes e : Sem Unit).bind fun _ => .raise e
set_option maxHeartbeats 4000000 in
theorem upfa_loop {Gc : GC fn_upfa} (hn5 : Gc.n = 5) {x dx l it : Addr} {od : Obj} {is : List II} {low : Bool} {Li : Led} {n : Nat} {gs : List G} {data : List UInt8} {t1 t3 : Tok} {allow : Bool} {bits : List Bool} (hI : Infos is Li) (hO : CfOk od l is low) (hS : is.map II.spec = specOf 0 gs) (hG : ∀ g ∈ gs, g.Ok)
    (hx : Gc.h₀.get? x = some (instObj 507 dx)) (hdx : Gc.h₀.get? dx = some od) (hl : Gc.h₀.get? l = some (listO (irefs is) n)) (hLi : ledIn Li Gc.h₀) (hsz : sizes gs ≤ 1000) (hBL : bits.length ≤ 800)
    {kf : Result → Sem Fin} {p : Pos} {ls : List Value} (hend : ∀ f, f = .next ∨ f = .ret .none → kf (.ok f) = Sem.pure (.done (.ret .none))) (outs : List PV) :
    ∀ (rest : List G) (i o0 : Nat) (done : List PV), i + rest.length = gs.length → gs.drop i = rest → o0 + sizes rest = sizes gs → outs = done ++ backsG (fitG bits.length o0 rest) → Fits low bits o0 rest →
      ∀ (s₀ s : Shared) (gu : Led) (o : Obj) (t4 : Tok) (q1 q2 q3 q4 : Option Value) (ok2 : AOk Gc.n (Gc.A.over (.forLoop upfaT.1 (.ref it) upfaT.2.2 [] Gc.env) [.ret kf none false ls (.func (bodyOf (fdAt 438)) Gc.env) p []])), LIt l i o → keys gu = Gc.K → (∀ p ∈ gu, s₀.heap.get? p.1 = some p.2) →
        Vw (Gc.cx _ ok2 s₀.gens) (upfaV x data t1 o0 t4 allow bits t3 [q1, q2, q3, q4]) ((it, o) :: gu) s →
        Seg (model prog Gc.w) Gc.A (gR Gc.K Gc.h₀ Gc.os₀) (gY Gc.K Gc.h₀ Gc.os₀ (outOf outs)) (backsG (fitG bits.length o0 rest)).length s₀ (.forLoop upfaT.1 (.ref it) upfaT.2.2 [] Gc.env)
          ((model prog Gc.w).den (.forLoop upfaT.1 (.ref it) upfaT.2.2 [] Gc.env)) [.ret kf none false ls (.func (bodyOf (fdAt 438)) Gc.env) p []] s := by
  have ok := (upfa_is Gc.w).ok
  obtain ⟨ko, kb, ka, hD⟩ := hO.ex
  have hlen : is.length = gs.length := by have := congrArg List.length hS; rwa [List.length_map, specOf_len] at this
  intro rest
  induction rest with
  | nil =>
    rintro i o0 done hi hd ho hout hfit s₀ s gu o t4 q1 q2 q3 q4 ok2 hit hk hg v
    have hi' : i = (irefs is).length := by unfold irefs; rw [List.length_map, hlen]; simpa using hi
    subst hi'
    refine seg_forLoop (wp_w (C := Gc.cx _ ok2 s₀.gens) (Q := fun r V' H' => r = none ∧ gu = H') rfl rfl (w_end_list hit (.inr hl) (.listO _ _) ⟨rfl, rfl⟩) v ?_)
    rintro r V' H' s1 v1 ⟨rfl, rfl⟩
    refine seg_endFor ?_
    rw [hend _ (.inl rfl)]
    exact seg_end (.ok (.ret .none)) ⟨rfl, rfl, v1.kept (P := []) hk hg⟩
  | cons g rest ih =>
    rintro i o0 done hi hd ho hout hfit s₀ s gu o t4 q1 q2 q3 q4 ok2 hit hk hg v
    have hgi : gs[i]? = some g := by
      have := congrArg (·[0]?) hd
      simpa using this
    obtain ⟨j, hj, hjo, hm1, hm2, e1, e2, e3⟩ := hI.get hS hgi
    have hgo : g.Ok := hG g (List.mem_of_getElem? hgi)
    have hj1 : Gc.h₀.get? j.x = some (instObj (clsK j.kd) j.dx) := hLi _ hm1
    have hj2 : Gc.h₀.get? j.dx = some j.od := hLi _ hm2
    obtain ⟨kv, hDj, hKj, ten, hen⟩ := id hjo.ex
    obtain ⟨tz, hz⟩ := id hKj.z
    have hgsz : 1 ≤ g.size ∧ g.size ≤ 24 := by
      have : ∀ {kd size num : Nat} {val back : PV}, FG kd size num val back → 1 ≤ size ∧ size ≤ 24 := by
        intro kd size num val back hg
        cases hg <;> omega
      exact this hgo
    rw [sizes_cons] at ho
    refine seg_forLoop (wp_w (C := Gc.cx _ ok2 s₀.gens) (Q := fun r V' H' => ∃ o', LIt l (i + 1) o' ∧ r = some (.ref j.x) ∧ upfaV x data t1 o0 t4 allow bits t3 [q1, q2, q3, q4] = V' ∧ (it, o') :: gu = H') rfl rfl (w_next_list hit (.inr hl) (.listO _ _) hj fun o' h' => ⟨o', h', rfl, rfl, rfl⟩) v ?_)
    rintro r V' H' s1 v1 ⟨o', hit', rfl, rfl, rfl⟩
    refine ⟨rfl, ?_⟩
    refine wp_w (C := Gc.cx _ ok2 s₀.gens) (Q := fun _ V' H' => upfaV x data t1 o0 t4 allow bits t3 [some (.ref j.x), q2, q3, q4] = V' ∧ (it, o') :: gu = H') rfl rfl (pieceOf (f := fun e => assign _ e _) (fun C hw hn hh => ?_) (fun _ => rfl)) v1 ?_
    · try dsimp only
      refine w_assign_Name ?_
      walk_at "ww"
      exact ⟨rfl, rfl⟩
    rintro _ V' H' s2 v2 ⟨rfl, rfl⟩
    have hx2 : ∀ {C : Cx fn_upfa}, C.h₀ = Gc.h₀ → C.h₀.get? x = some (instObj 507 dx) := fun hh => by rw [hh]; exact hx
    have hdx2 : ∀ {C : Cx fn_upfa}, C.h₀ = Gc.h₀ → C.h₀.get? dx = some od := fun hh => by rw [hh]; exact hdx
    have hj12 : ∀ {C : Cx fn_upfa}, C.h₀ = Gc.h₀ → C.h₀.get? j.x = some (instObj (clsK j.kd) j.dx) := fun hh => by rw [hh]; exact hj1
    have hj22 : ∀ {C : Cx fn_upfa}, C.h₀ = Gc.h₀ → C.h₀.get? j.dx = some j.od := fun hh => by rw [hh]; exact hj2
    have haug : ∀ (s₀' s' : Shared) (gu' : Led) (q2 q3 q4 : Option Value), o0 + g.size ≤ bits.length → keys gu' = Gc.K → (∀ p ∈ gu', s₀'.heap.get? p.1 = some p.2) →
        Vw (Gc.cx _ ok2 s₀'.gens) (upfaV x data t1 o0 t4 allow bits t3 [some (.ref j.x), q2, q3, q4]) ((it, o') :: gu') s' →
        Seg (model prog Gc.w) Gc.A (gR Gc.K Gc.h₀ Gc.os₀) (gY Gc.K Gc.h₀ Gc.os₀ (outOf outs)) (backsG (fitG bits.length (o0 + g.size) rest)).length s₀' (.forLoop upfaT.1 (.ref it) upfaT.2.2 [] Gc.env)
          ((execs (upfaT.2.2.drop 2) Gc.env).wrap (upK (.forLoop upfaT.1 (.ref it) upfaT.2.2 [] Gc.env)) (upH Gc.env) id id) [.ret kf none false ls (.func (bodyOf (fdAt 438)) Gc.env) p []] s' := by
      intro s₀' s' gu' q2 q3 q4 hin hk' hg' v'
      refine seg_execs_cons ?_
      refine seg_w (C := Gc.cx _ ok2 s₀'.gens) (Q := fun f V' H' => ∃ t5, f = .next ∧ upfaV x data t1 (o0 + g.size) t5 allow bits t3 [some (.ref j.x), q2, q3, q4] = V' ∧ (it, o') :: gu' = H') rfl rfl
        (pieceOf (f := fun e => exec _ e) (fun C hw hn hh => ?_) (fun _ => rfl)) v' ?_
      · try dsimp only
        have hcj := cls_ok C.w j.kd hjo.kd
        walk_at "ww"
        refine w_getOwn (.inr (hj12 hh)) (.inr (hj22 hh)) hDj (hcj.hg _) hcj.hh (hcj.fi aSize (by simp)) hz rfl ?_
        walk_at "ww"
        rename_i kk
        refine ⟨kk, rfl, ?_, rfl⟩
        rw [show (o0 : Int) + (j.size : Int) = ((o0 + g.size : Nat) : Int) by rw [e2]; omega]
      rintro f V' H' s6 v6 ⟨t5, rfl, rfl, rfl⟩
      refine seg_again rfl ?_
      refine ih (i + 1) (o0 + g.size) (if g.keep then done ++ [g.back] else done) (by rw [List.length_cons] at hi; omega) ?_ (by omega) ?_ hfit.2 s₀' s6 gu' o' t5 _ _ _ _ ok2 hit' hk' hg' v6
      · rw [← List.drop_drop, hd]; rfl
      · have hin : o0 + g.size ≤ bits.length := hin
        rw [hout, show fitG bits.length o0 (g :: rest) = g :: fitG bits.length (o0 + g.size) rest from if_pos hin]
        unfold backsG
        cases hq : g.keep with
        | true => rw [List.filter_cons_of_pos hq]; simp
        | false => rw [List.filter_cons_of_neg (by rw [hq]; decide)]; simp
    refine seg_execs_cons ?_
    refine seg_w (C := Gc.cx _ ok2 s₀.gens) (Q := fun f V' H' => (f = .next ∧ o0 + g.size ≤ bits.length ∨ f = .ret .none ∧ ¬ (o0 + g.size ≤ bits.length)) ∧ upfaV x data t1 o0 t4 allow bits t3 [some (.ref j.x), q2, q3, q4] = V' ∧ (it, o') :: gu = H') rfl rfl
      (pieceOf (f := fun e => exec _ e) (fun C hw hn hh => ?_) (fun _ => rfl)) v2 ?_
    · try dsimp only
      have hcj := cls_ok C.w j.kd hjo.kd
      refine w_If ?_
      walk_at "ww"
      refine w_getOwn (.inr (hj12 hh)) (.inr (hj22 hh)) hDj (hcj.hg _) hcj.hh (hcj.fi aSize (by simp)) hz rfl ?_
      walk_at "ww"
      refine w_len_S (by rw [chs_len]; omega) fun t5 => ?_
      rw [chs_len, e2]
      walk_at "ww"
      refine ⟨fun h => ?_, fun h => ?_⟩
      · walk_at "ww"
        refine w_Return_none ?_
        walk_at "ww"
        exact ⟨.inr ⟨rfl, by have := of_decide_eq_true h; omega⟩, rfl, rfl⟩
      · walk_at "ww"
        exact ⟨.inl ⟨rfl, by have := of_decide_eq_false h; omega⟩, rfl, rfl⟩
    rintro f V' H' s3 v3 ⟨hf, rfl, rfl⟩
    rcases hf with ⟨rfl, hin⟩ | ⟨rfl, hno⟩
    case inr =>
      show Seg _ _ _ _ _ _ _ (leafOf (.ok (.ret .none))) _ _
      refine seg_leaf (.ok (.ret .none)) ?_
      rw [hend _ (.inr rfl)]
      refine seg_end (.ok (.ret .none)) ⟨rfl, ?_, v3.kept (P := [(it, o')]) hk hg⟩
      show (backsG (fitG bits.length o0 (g :: rest))).length = 0
      rw [show fitG bits.length o0 (g :: rest) = [] by unfold fitG; rw [if_neg hno]]
      rfl
    have hfg : fitG bits.length o0 (g :: rest) = g :: fitG bits.length (o0 + g.size) rest := if_pos hin
    dsimp only
    refine seg_execs_cons ?_
    refine seg_If (wp_w (C := Gc.cx _ ok2 s₀.gens) (Q := fun b V' H' => b = decide (j.kd ∈ [112, 80]) ∧ upfaV x data t1 o0 t4 allow bits t3 [some (.ref j.x), q2, q3, q4] = V' ∧ (it, o') :: gu = H') rfl rfl
      (pieceOf (f := fun e => isTrue _ e (eval _ e)) (fun C hw hn hh => ?_) (fun _ => rfl)) v3 ?_)
    · try dsimp only
      walk_at "ww"
      ktf_call 310
      walk_at "ww"
      refine w_isPad hjo (.inr (hj12 hh)) (.inr (hj22 hh)) ?_
      walk_at "ww"
      exact ⟨rfl, rfl, rfl⟩
    rintro b V' H' s4 v4 ⟨rfl, rfl, rfl⟩
    by_cases hkp : j.kd ∈ [112, 80]
    · rw [decide_eq_true hkp, if_pos rfl]
      have hkg : ¬ (g.keep = true) := fun h => (G.keep_iff.mp h) (e1 ▸ hkp)
      have hbk : backsG (fitG bits.length o0 (g :: rest)) = backsG (fitG bits.length (o0 + g.size) rest) := by
        rw [hfg]; unfold backsG; rw [List.filter_cons_of_neg hkg]
      rw [hbk]
      refine seg_w (C := Gc.cx _ ok2 s₀.gens) (Q := fun f V' H' => f = .next ∧ upfaV x data t1 o0 t4 allow bits t3 [some (.ref j.x), q2, q3, q4] = V' ∧ (it, o') :: gu = H') rfl rfl
        (pieceOf (f := fun e => execs _ e) (fun C hw hn hh => ?_) (fun _ => rfl)) v4 ?_
      · try dsimp only
        walk_at "ww"
        refine w_Pass ?_
        walk_at "ww"
        exact ⟨rfl, rfl, rfl⟩
      rintro f V' H' s5 v5 ⟨rfl, rfl, rfl⟩
      exact haug s₀ s5 gu q2 q3 q4 hin hk hg v5
    · rw [decide_eq_false hkp, if_neg (by decide)]
      have hkg : g.keep = true := G.keep_iff.mpr (by rw [← e1]; exact hkp)
      have hku : j.kd ∈ [115, 117, 98, 114, 116] := by
        have h1 := hjo.kd
        have h2 := hkp
        simp only [List.mem_cons, List.not_mem_nil, or_false] at h1 h2 ⊢
        omega
      obtain ⟨m, hm⟩ : ∃ m, m = (backsG (fitG bits.length (o0 + g.size) rest)).length := ⟨_, rfl⟩
      have hbk : backsG (fitG bits.length o0 (g :: rest)) = g.back :: backsG (fitG bits.length (o0 + g.size) rest) := by
        rw [hfg]; unfold backsG; rw [List.filter_cons_of_pos hkg]; rfl
      have hcount : (backsG (fitG bits.length o0 (g :: rest))).length = m + 1 := by rw [hbk, hm]; rfl
      rw [hcount]
      obtain ⟨wb, hwb⟩ : ∃ wb, wb = if g.little then (bitsN g.size g.num).reverse else bitsN g.size g.num := ⟨_, rfl⟩
      have hwl : wb.length = g.size := by rw [hwb]; split <;> simp [bitsN_len]
      obtain ⟨sg, hsg⟩ : ∃ sg, sg = (bits.drop o0).take g.size := ⟨_, rfl⟩
      have hsl : sg.length = g.size := by rw [hsg, List.length_take, List.length_drop]; omega
      have hsE : sg = if (!low || decide (g.kind ∈ [114, 116])) = true then wb else chk g.size wb (8 - o0 % 8) := by
        rw [hsg, hfit.1 hin (by rw [← e1]; exact hkp)]
        unfold encB
        rw [← hwb, bitsN_len]
      refine seg_execs_cons ?_
      refine seg_w (C := Gc.cx _ ok2 s₀.gens) (Q := fun f V' H' => ∃ t a b, f = .next ∧ upfaV x data t1 o0 t4 allow bits t3 [some (.ref j.x), some (.str (S (chs wb)) t), a, b] = V' ∧ (it, o') :: gu = H') rfl rfl
        (pieceOf (f := fun e => exec _ e) (fun C hw hn hh => W.shrink ?_) (fun _ => rfl)) v4 ?_
      · try dsimp only
        have hc := cf_ok C.w
        have hcj := cls_ok C.w j.kd hjo.kd
        refine w_IfJ (fun V H => SubP ((it, o') :: gu) H ∧ ∃ t a b, upfaV x data t1 o0 t4 allow bits t3 [some (.ref j.x), some (.str (S (chs wb)) t), a, b] = V) ?_ ?_
        · walk_at "ww"
          refine w_getOwn (.inr (hx2 hh)) (.inr (hdx2 hh)) hD (hc.hg _) hc.hh (hc.fi cOrder (by simp)) (val := .str (S [ordCh low]) ko) (by kernel_rfl) rfl ?_
          walk_at "ww"
          refine ⟨fun hlow => ⟨fun _ => ?_, fun h => nomatch h⟩, fun hlow => ?_⟩
          · have hlow' : low = false := by cases low with | false => rfl | true => exact absurd hlow (by decide)
            walk_at "ww"
            refine w_getOwn (.inr (hj12 hh)) (.inr (hj22 hh)) hDj (hcj.hg _) hcj.hh (hcj.fi aSize (by simp)) hz rfl ?_
            walk_at "ww"
            refine cut_str (.int _ _) (.int _ _) (by rw [chs_len]; omega) fun t6 => ?_
            rw [cutM (i := o0) (a := o0) (b := o0 + g.size) rfl (by rw [e2]; omega), chs_drop, chs_take, Nat.add_sub_cancel_left, ← hsg]
            walk_at "ww"
            refine ⟨rfl, .rfl, t6, q3, q4, ?_⟩
            rw [hsE, if_pos (by rw [hlow']; rfl)]
          · have hlow' : low = true := by cases low with | true => rfl | false => exact absurd hlow (by decide)
            walk_at "ww"
            ktf_call 298
            walk_at "ww"
            ktf_call 383
            walk_at "ww"
            refine w_newTuple (fun tp => ?_) (line_le (by simp))
            walk_at "ww"
            refine w_isRT hjo (.inr (hj12 hh)) (.inr (hj22 hh)) (.inl (.head _)) ?_
            walk_at "ww"
            refine ⟨fun hrt => ⟨fun _ => ?_, fun h => nomatch h⟩, fun hrt => ?_⟩
            · walk_at "ww"
              refine w_getOwn (.inr (hj12 hh)) (.inr (hj22 hh)) hDj (hcj.hg _) hcj.hh (hcj.fi aSize (by simp)) hz rfl ?_
              walk_at "ww"
              refine cut_str (.int _ _) (.int _ _) (by rw [chs_len]; omega) fun t6 => ?_
              rw [cutM (i := o0) (a := o0) (b := o0 + g.size) rfl (by rw [e2]; omega), chs_drop, chs_take, Nat.add_sub_cancel_left, ← hsg]
              walk_at "ww"
              refine ⟨rfl, .skip .rfl, t6, q3, q4, ?_⟩
              rw [hsE, if_pos (by rw [← e1, hrt, Bool.or_true])]
            · walk_at "ww"
              refine ⟨(fun h => nomatch h), fun _ => ?_⟩
              refine w_drop' (H' := (it, o') :: gu) (.skip .rfl) ?_
              have hsE' : sg = chk g.size wb (8 - o0 % 8) := by rw [hsE, ← e1, hlow', hrt]; rfl
              walk_at "ww"
              refine w_getOwn (.inr (hj12 hh)) (.inr (hj22 hh)) hDj (hcj.hg _) hcj.hh (hcj.fi aSize (by simp)) hz rfl ?_
              walk_at "ww"
              refine cut_str (.int _ _) (.int _ _) (by rw [chs_len]; omega) fun t6 => ?_
              rw [cutM (i := o0) (a := o0) (b := o0 + g.size) rfl (by rw [e2]; omega), chs_drop, chs_take, Nat.add_sub_cancel_left, ← hsg]
              walk_at "ww"
              refine w_getOwn (.inr (hj12 hh)) (.inr (hj22 hh)) hDj (hcj.hg _) hcj.hh (hcj.fi aSize (by simp)) hz rfl ?_
              walk_at "ww"
              refine w_getOwn (.inr (hj12 hh)) (.inr (hj22 hh)) hDj (hcj.hg _) hcj.hh (hcj.fi aSize (by simp)) hz rfl ?_
              walk_at "ww"
              refine w_mod_int (by decide) fun t7 => ?_
              walk_at "ww"
              have hb := chk_back (vb := wb) (o := o0) (by intro e; rw [e] at hwl; simp at hwl; omega)
              rw [hwl, ← hsE'] at hb
              refine w_While (fun m V H => H = (it, o') :: gu ∧ ∃ (b tmp : List Bool) (r : Nat), ∃ k1 k2 k3, V = upfaV x data t1 o0 t4 allow bits t3 [some (.ref j.x), some (.str (S (chs b)) k1), some (.str (S (chs tmp)) k2), some (.int ((tmp.length : Int) - (r : Int)) k3)] ∧
                tmp.length + (if r = 0 then 1 else 0) ≤ m ∧ r ≤ 8 ∧ b.length + tmp.length ≤ 1000 ∧ b ++ chk m tmp r = wb) (n := g.size + 1) ⟨rfl, [], sg, (o0 + g.size) % 8, _, _, _, by
                  rw [hsl, show (((o0 + g.size) % 8 : Nat) : Int) = ((o0 : Int) + (j.size : Int)) % 8 by rw [e2]; omega, show ((g.size : Nat) : Int) = (j.size : Int) by rw [e2]]; rfl, by rw [hsl]; split <;> omega, by omega, by rw [hsl]; simp; omega, hb⟩ ?_
              rintro m V H ⟨rfl, b, tmp, r, k1, k2, k3, rfl, hmm, hr, hbl, he⟩
              walk_at "ww"
              refine ⟨fun hc => ?_, fun hc => ?_⟩
              · have hpos : r < tmp.length := by have := of_decide_eq_true hc; omega
                obtain ⟨m, rfl⟩ : ∃ m', m = m' + 1 := ⟨m - 1, by omega⟩
                have ea : (tmp.length : Int) - (r : Int) = ((tmp.length - r : Nat) : Int) := by omega
                walk_at "ww"
                refine cut_str (.int _ _) (.int _ _) (by rw [chs_len]; omega) fun k4 => ?_
                rw [cutM (a := tmp.length - r) (b := tmp.length - r + 8) ea (by omega), chs_drop, chs_take, Nat.add_sub_cancel_left, List.take_of_length_le (by rw [List.length_drop]; omega)]
                refine w_iadd_S (by rw [chs_len, chs_len, List.length_drop]; omega) fun k5 => ?_
                rw [← chs_append]
                walk_at "ww"
                refine cut_str .none (.int _ _) (by rw [chs_len]; omega) fun k6 => ?_
                rw [cutT ea, chs_take]
                walk_at "ww"
                refine ⟨m, by omega, rfl, _, _, 8, _, _, _, by rw [List.length_take, show ((min (tmp.length - r) tmp.length : Nat) : Int) - ((8 : Nat) : Int) = (tmp.length : Int) - (r : Int) - 8 by omega], by rw [List.length_take]; split at hmm <;> simp <;> omega, by omega, by rw [List.length_append, List.length_take, List.length_drop]; omega, ?_⟩
                rw [← he, List.append_assoc]
                conv => rhs; unfold chk
                rw [if_neg (by omega)]
              · have hz : tmp.length ≤ r := by have := of_decide_eq_false hc; omega
                have hres : chk m tmp r = tmp := chk_short hz
                walk_at "ww"
                refine w_iadd_S (by rw [chs_len, chs_len]; omega) fun k5 => ?_
                rw [← chs_append]
                walk_at "ww"
                exact ⟨rfl, .rfl, k5, _, _, by rw [← he, hres]⟩
        · rintro V H ⟨hsub, t, a, b, rfl⟩
          exact ⟨_, hsub, t, a, b, rfl, rfl, rfl⟩
      rintro f V' H' s5 v5 ⟨t5, q3', q4', rfl, rfl, rfl⟩
      dsimp only
      refine seg_execs_cons ?_
      refine seg_w (C := Gc.cx _ ok2 s₀.gens) (Q := fun f V' H' => ∃ t, f = .next ∧ upfaV x data t1 o0 t4 allow bits t3 [some (.ref j.x), some (.str (S (chs (bitsN g.size g.num))) t), q3', q4'] = V' ∧ (it, o') :: gu = H') rfl rfl
        (pieceOf (f := fun e => exec _ e) (fun C hw hn hh => ?_) (fun _ => rfl)) v5 ?_
      · try dsimp only
        have hcj := cls_ok C.w j.kd hjo.kd
        refine w_If ?_
        walk_at "ww"
        refine w_getOwn (.inr (hj12 hh)) (.inr (hj22 hh)) hDj (hcj.hg _) hcj.hh (hcj.fi aEnd (by simp)) hen rfl ?_
        walk_at "ww"
        rw [e3]
        cases hlt : g.little with
        | true =>
          refine ⟨fun _ => ?_, (fun h => nomatch h)⟩
          walk_at "ww"
          refine cut_rev rfl (by rw [chs_len, hwl]; omega) fun t2 => ?_
          walk_at "ww"
          refine ⟨t2, rfl, ?_, rfl⟩
          rw [hwb, hlt, if_pos rfl, ← chs_rev, List.reverse_reverse]
        | false =>
          refine ⟨(fun h => nomatch h), fun _ => ?_⟩
          walk_at "ww"
          refine ⟨t5, rfl, ?_, rfl⟩
          rw [hwb, hlt]; rfl
      rintro f V' H' s6 v6 ⟨t6, rfl, rfl, rfl⟩
      dsimp only
      refine seg_execs_cons ?_
      refine seg_Expr_Yield rfl rfl rfl (wp_w (C := Gc.cx _ ok2 s₀.gens) (Q := fun v V' H' => ∃ T y, v = .ref T ∧ g.back.Is y ∧ upfaV x data t1 o0 t4 allow bits t3 [some (.ref j.x), some (.str (S (chs (bitsN g.size g.num))) t6), q3', q4'] = V' ∧ (T, tupO [.ref j.x, y]) :: (it, o') :: gu = H') rfl rfl
        (pieceOf (f := fun e => eval _ e) (fun C hw hn hh => ?_) (fun _ => rfl)) v6 ?_)
      · try dsimp only
        walk_at "ww"
        refine w_unpackM hjo hku (.inr (hj12 hh)) (.inr (hj22 hh)) ?_
        walk_at "ww"
        have hgo' : FG j.kd j.size g.num g.val g.back := by rw [e1, e2]; exact hgo
        rw [← e2]
        refine w_unpackC (by rw [hn, hn5]; decide) hjo (.inr (hj12 hh)) (.inr (hj22 hh)) hgo' rfl rfl hkp fun y hy => ?_
        walk_at "ww"
        refine w_newTuple (fun tp => ?_) (line_le (by simp))
        exact ⟨tp, y, rfl, hy, rfl, rfl⟩
      rintro v V' H' s7 v7 ⟨T, y, rfl, hy, rfl, rfl⟩ kap hkap
      have hnd := v7.nd
      have hTK : T ∉ Gc.K := fun hm => by
        rw [← hk] at hm
        exact (List.nodup_cons.mp hnd).1 (List.mem_cons_of_mem _ hm)
      refine ⟨v7.kept (P := [(T, tupO [.ref j.x, y]), (it, o')]) hk hg, ⟨T, .ref j.x, y, rfl, hTK, v7.oldNe (.head _), v7.at (.head _), ?_⟩, fun s'' wt => hkap .none s'' ?_⟩
      · refine ⟨g.back, ?_, hy⟩
        rw [hout, hbk, List.length_append, List.length_cons, ← hm, show done.length + (m + 1) - 1 - m = done.length by omega, List.getElem?_append_right (Nat.le_refl _), Nat.sub_self]
        rfl
      · obtain ⟨gu', hk', hg', v8⟩ := v7.wake (P := [(T, tupO [.ref j.x, y]), (it, o')]) (ok' := ok2) hk wt
        have := haug s'' s'' gu' _ q3' q4' hin hk' hg' (v8.sub (List.sublist_cons_self _ _))
        rw [← hm] at this
        exact this
set_option maxHeartbeats 1000000 in
theorem upfa_goes {w : World} {A : Around} {x : Addr} {is : List II} {low : Bool} {Z : Led} {gs : List G} {data : List UInt8} {off : Nat} {t1 t2 : Tok} {allow : Bool} (hZ : CfL x is low Z) (hS : is.map II.spec = specOf 0 gs) (hG : ∀ g ∈ gs, g.Ok)
    (hdl : data.length ≤ 100) (hgsz : sizes gs ≤ 1000) (hA : AOk 6 A) {h₀ : Heap} (hB : Base w h₀) (hb : ledIn Z h₀) {L : Addr} (hL : h₀.objs.size ≤ L) {K : List Addr} (hK : ∀ k ∈ K, h₀.get? k = none ∧ k ≠ L) (hKn : K.Nodup) {s2 : Shared} (hgu : ∀ k ∈ K, ∃ o, s2.heap.get? k = some o)
    (hkeep : ∀ b o, h₀.get? b = some o → s2.heap.get? b = some o)
    (hns : s2.heap.Ns L (slot fn_upfa.names [some (.ref x), some (.bytes data.toArray t1), some (.int off t2), some (.bool allow), none, none, none, none, none])) {os₀ : OsState} (hos : s2.os = os₀)
    {bits : List Bool} (hbits : bits = (bitsB data).drop off) (hfit : Fits low bits 0 gs) (hen : allow = true ∨ sizes gs ≤ bits.length) :
    (GenState.fresh (.func (bodyOf (fdAt 438)) (callEnv fn_upfa.fd L fn_upfa.addr))).Goes (model prog w) A (gR K h₀ os₀) (gY K h₀ os₀ (outOf (backsG (fitG bits.length 0 gs)))) (backsG (fitG bits.length 0 gs)).length (.send .none) s2 := by
  refine ⟨rfl, ?_⟩
  have ok := (upfa_is w).ok
  obtain ⟨dx, od, l, n, Li, hI, hO, rfl⟩ := id hZ.ex
  obtain ⟨ko, kb, ka, hD⟩ := hO.ex
  have hc := cf_ok w
  let Gc : GC fn_upfa := { w, A, L, h₀, os₀, n := 5, aok := hA, base := hB, K }
  have hlen : is.length = gs.length := by have := congrArg List.length hS; rwa [List.length_map, specOf_len] at this
  obtain ⟨gu0, hk0, hg0⟩ := guests hgu
  have a1 : AOk 5 (A.over (.func (bodyOf (fdAt 438)) Gc.env) []) := hA.over_func _ _
  have v0 : Vw (Gc.cx _ a1 s2.gens) [some (.ref x), some (.bytes data.toArray t1), some (.int off t2), some (.bool allow), none, none, none, none, none] gu0 s2 := by
    refine ⟨⟨hns, hkeep, hL⟩, fun p hp => ?_, ?_, .refl _, hos⟩
    · have hm : p.1 ∈ K := by rw [← hk0]; exact List.mem_map_of_mem hp
      exact ⟨hg0 p hp, (hK _ hm).2, (hK _ hm).1⟩
    · show (gu0.map (·.1)).Nodup
      rw [show gu0.map (·.1) = K from hk0]; exact hKn
  have hBL : bits.length ≤ 800 := by rw [hbits, List.length_drop, bitsB_len]; omega
  show Seg _ A _ _ _ s2 (.func (bodyOf (fdAt 438)) Gc.env) ((model prog w).den (.func (bodyOf (fdAt 438)) Gc.env)) [] s2
  refine seg_func ?_
  have hx : h₀.get? x = some (instObj 507 dx) := hb _ (.head _)
  have hdx : h₀.get? dx = some od := hb _ (.tail _ (.head _))
  have hl : h₀.get? l = some (listO (irefs is) n) := hb _ (.tail _ (.tail _ (.head _)))
  refine seg_execs_cons ?_
  refine seg_w (C := Gc.cx _ a1 s2.gens) (Q := fun f V' H' => f = .next ∧ gu0 = H' ∧ ∃ t, V' = [some (.ref x), some (.bytes data.toArray t1), some (.int off t2), some (.bool allow), some (.str (S (chs bits)) t), none, none, none, none]) rfl rfl
    (pieceOf (f := fun e => exec _ e) (fun C hw hn hh => ?_) (fun _ => rfl)) v0 ?_
  · try dsimp only
    walk_at "ww"
    ktf_call 234
    walk_at "ww"
    refine w_spz (b2a_sp (by omega)) (by rw [hn]; show 2 ≤ 5; decide) (fun _ _ => trivial) (fun _ _ ⟨_, _, e⟩ => e) ?_
    rintro v P' ⟨t1, rfl, _⟩
    refine w_add_B (by simp [hexB, hexDs_len]; omega) fun t2 => ?_
    walk_at "ww"
    have e1 : [48, 49] ++ hexB (hexDs data) = hexB (0 :: 1 :: hexDs data) := rfl
    rw [e1]
    refine w_int16 (ds := 0 :: 1 :: hexDs data) ?_ (by simp) (by simp) (by simp [hexDs_len]; omega) fun t3 => ?_
    · intro d hd
      rcases List.mem_cons.mp hd with rfl | hd
      · decide
      · rcases List.mem_cons.mp hd with rfl | hd
        · decide
        · exact hexDs_lt data d hd
    walk_at "ww"
    refine w_bin (k := 8 * data.length) (m := vB data) ?_ (vB_lt data) (by omega) fun t4 => ?_
    · have : foldD 16 (0 :: 1 :: hexDs data) 0 = foldD 16 (hexDs data) 1 := rfl
      rw [this, foldD_acc16, hexDs_len, pow16, Nat.one_mul]; rfl
    walk_at "ww"
    refine cut_str (.int _ _) .none (by simp [chs_len, bitsN_len]; omega) fun t5 => ?_
    rw [cutF (k := 3 + off) (by omega)]
    walk_at "ww"
    refine ⟨rfl, rfl, t5, ?_⟩
    have : List.drop (3 + off) ([48, 98, 49] ++ chs (bitsN (8 * data.length) (vB data))) = chs bits := by
      rw [hbits, ← chs_drop, ← List.drop_drop]; rfl
    rw [this]
  rintro f V' H' s3 v3 ⟨rfl, rfl, t3, rfl⟩
  dsimp only
  refine seg_execs_cons ?_
  refine seg_w (C := Gc.cx _ a1 s2.gens) (Q := fun f V' H' => f = .next ∧ gu0 = H' ∧ V' = [some (.ref x), some (.bytes data.toArray t1), some (.int off t2), some (.bool allow), some (.str (S (chs bits)) t3), none, none, none, none]) rfl rfl
    (pieceOf (f := fun e => exec _ e) (fun C hw hn hh => ?_) (fun _ => rfl)) v3 ?_
  · try dsimp only
    have hx' : C.h₀.get? x = some (instObj 507 dx) := by rw [hh]; exact hx
    have hdx' : C.h₀.get? dx = some od := by rw [hh]; exact hdx
    have hc := cf_ok C.w
    refine w_If ?_
    walk_at "ww"
    refine ⟨fun ha => ?_, fun ha => ⟨(fun h => nomatch h), fun _ => ?_⟩⟩
    · have ha' : allow = false := by cases allow with | false => rfl | true => cases ha
      have hsz : sizes gs ≤ bits.length := hen.resolve_left (by rw [ha']; decide)
      walk_at "ww"
      refine w_getOwn (.inr hx') (.inr hdx') hD (hc.hg _) hc.hh (hc.fi cBits (by simp)) (val := .int (bitsOf is) kb) (by kernel_rfl) rfl ?_
      rw [bitsOf_eq hS]
      walk_at "ww"
      refine w_len_S (by rw [chs_len]; omega) fun t4 => ?_
      rw [chs_len]
      walk_at "ww"
      refine ⟨fun h => absurd (of_decide_eq_true h) (by omega), fun _ => ⟨(fun h => nomatch h), fun _ => ?_⟩⟩
      walk_at "ww"
      exact ⟨rfl, rfl, rfl⟩
    · walk_at "ww"
      exact ⟨rfl, rfl, rfl⟩
  rintro f V' H' s4 v4 ⟨rfl, rfl, rfl⟩
  dsimp only
  refine seg_execs_cons ?_
  refine seg_w (C := Gc.cx _ a1 s2.gens) (Q := fun f V' H' => f = .next ∧ gu0 = H' ∧ ∃ t, V' = [some (.ref x), some (.bytes data.toArray t1), some (.int 0 t), some (.bool allow), some (.str (S (chs bits)) t3), none, none, none, none]) rfl rfl
    (pieceOf (f := fun e => exec _ e) (fun C hw hn hh => ?_) (fun _ => rfl)) v4 ?_
  · try dsimp only
    walk_at "ww"
    exact ⟨rfl, rfl, _, rfl⟩
  rintro f V' H' s5 v5 ⟨rfl, rfl, t4, rfl⟩
  dsimp only
  refine seg_execs_cons ?_
  refine seg_For (wp_w (C := Gc.cx _ a1 s2.gens) (Q := fun v V' H' => v = .ref l ∧ gu0 = H' ∧ V' = [some (.ref x), some (.bytes data.toArray t1), some (.int 0 t4), some (.bool allow), some (.str (S (chs bits)) t3), none, none, none, none]) rfl rfl
    (pieceOf (f := fun e => eval _ e) (fun C hw hn hh => ?_) (fun _ => rfl)) v5 ?_) (by intro _; kernel_rfl)
  · try dsimp only
    have hx' : C.h₀.get? x = some (instObj 507 dx) := by rw [hh]; exact hx
    have hdx' : C.h₀.get? dx = some od := by rw [hh]; exact hdx
    have hc := cf_ok C.w
    walk_at "ww"
    refine w_getOwn (.inr hx') (.inr hdx') hD (hc.hg _) hc.hh (hc.fi cInfos (by simp)) (val := .ref l) (by kernel_rfl) rfl ?_
    exact ⟨rfl, rfl, rfl⟩
  rintro v V' H' s6 v6 ⟨rfl, rfl, rfl⟩
  refine wp_w (C := Gc.cx _ a1 s2.gens) (Q := fun v V' H' => ∃ it o, v = .ref it ∧ LIt l 0 o ∧ H' = (it, o) :: gu0 ∧ V' = [some (.ref x), some (.bytes data.toArray t1), some (.int 0 t4), some (.bool allow), some (.str (S (chs bits)) t3), none, none, none, none]) rfl rfl
    (w_iter_list (.inr hl) (.listO _ _) fun it o hit => ⟨it, o, rfl, hit, rfl, rfl⟩) v6 ?_
  rintro v V' H' s7 v7 ⟨it, o, rfl, hit, rfl, rfl⟩ p
  refine upfa_loop (Gc := Gc) rfl (it := it) (t1 := t1) (t3 := t3) (allow := allow) (data := data) (p := p) hI hO hS hG hx hdx hl (fun p hp => hb _ (.tail _ (.tail _ (.tail _ hp)))) hgsz hBL ?_ _ gs 0 0 [] (Nat.zero_add _) rfl (Nat.zero_add _) rfl hfit s2 s7 gu0 o t4 none none none none (by exact hA.over_for) hit hk0 hg0 v7
  rintro f (rfl | rfl) <;> rfl
-- part F24
/-! unpack_from, unpack -/
noncomputable def sc_uf : Scope := eScope (eArg (sExpr ((bodyOf (fdAt 504)).headD default)))
@[reducible] noncomputable def fn_ufC : Fn := { addr := 504, names := [Str.ofString "v"], fd := reFd (fdAt 504) (relabel sc_uf (callEnv (fdAt 504) 0 504)), mkE := fun L o => reScope (newEnv sc_uf L mainGlobals [] (callEnv (fdAt 504) o 504).qual none .none (some (callEnv (fdAt 504) o 504)) builtinsNs) (relabel sc_uf (callEnv (fdAt 504) o 504)) }
theorem ufC_ok : FnOk fn_ufC :=
  { nd := by decide +kernel, loc := by decide +kernel, kind := by kernel_rfl, dbg := by decide +kernel, gl := by kernel_rfl, bn := by kernel_rfl, en := fun _ _ => ⟨by kernel_rfl, rfl, by kernel_rfl, by kernel_rfl⟩ }
theorem fitG_len (len : Nat) : ∀ (gs : List G) (o : Nat), (backsG (fitG len o gs)).length ≤ gs.length
  | [], _ => Nat.le_refl _
  | g :: r, o => by
    unfold fitG
    split
    · have h1 := fitG_len len r (o + g.size)
      have h2 : (backsG (g :: fitG len (o + g.size) r)).length ≤ (backsG (fitG len (o + g.size) r)).length + 1 := by
        unfold backsG
        rw [List.length_map, List.length_map]
        cases hq : g.keep with
        | true => rw [List.filter_cons_of_pos hq]; exact Nat.le_refl _
        | false => rw [List.filter_cons_of_neg (by rw [hq]; decide)]; omega
      rw [List.length_cons]; omega
    · exact Nat.zero_le _
theorem PVs.of_outs {bs : List PV} {ws : List Value} (hl : ws.length = bs.length) (h : ∀ j y, ws[j]? = some y → outOf bs (bs.length - 1 - j) y) : PVs bs ws := by
  have key : ∀ (bs : List PV) (ws : List Value), ws.length = bs.length → (∀ (j : Nat) (y : Value), ws[j]? = some y → ∃ p : PV, bs[j]? = some p ∧ p.Is y) → PVs bs ws := by
    intro bs
    induction bs with
    | nil => intro ws hl _; rw [List.eq_nil_of_length_eq_zero hl]; exact .nil
    | cons b bs ih =>
      intro ws hl h
      cases ws with
      | nil => cases hl
      | cons w ws =>
        refine .cons ?_ (ih ws (by simpa using hl) fun j y hy => ?_)
        · obtain ⟨p, hp, hy⟩ := h 0 w rfl
          cases (Option.some.inj hp : b = p)
          exact hy
        · obtain ⟨p, hp, hy⟩ := h (j + 1) y (by simpa using hy)
          exact ⟨p, by simpa using hp, hy⟩
  refine key bs ws hl fun j y hy => ?_
  obtain ⟨p, hp, hi⟩ := h j y hy
  have hj := (List.getElem?_eq_some_iff.mp hy).1
  rw [show bs.length - 1 - (bs.length - 1 - j) = j by omega] at hp
  exact ⟨p, hp, hi⟩
set_option maxHeartbeats 1000000 in
theorem cf_uf_body {w : World} {x : Addr} {is : List II} {low : Bool} {Z : Led} {gs : List G} {data : List UInt8} {off : Nat} {t1 t2 : Tok} {allow : Bool} {bits : List Bool} (hZ : CfL x is low Z) (hS : is.map II.spec = specOf 0 gs) (hG : ∀ g ∈ gs, g.Ok) (hgl : gs.length ≤ 1000) (hgsz : sizes gs ≤ 1000)
    (hdl : data.length ≤ 100) (hbits : bits = (bitsB data).drop off) (hfit : Fits low bits 0 gs) (hen : allow = true ∨ sizes gs ≤ bits.length) (C : Cx fn_cf_uf) (hw : C.w = w) (hn : C.n = 7) (hb : ledIn Z C.h₀) :
    W C NoE (execs (bodyOf (fdAt 504)) C.env) [some (.ref x), some (.bytes data.toArray t1), some (.int off t2), some (.bool allow)] []
      (fun f _ H' => ∃ H'', SubP H'' H' ∧ ∃ a vs, (match f with | .ret v => v | _ => .none) = Value.ref a ∧ H'' = [(a, tupO vs)] ∧ PVs (backsG (fitG bits.length 0 gs)) vs) := by
  have ok := (cf_uf_is w).ok
  subst hw
  obtain ⟨dx, od, l, n, L, hI, hO, rfl⟩ := id hZ.ex
  obtain ⟨ko, kb, ka, hD⟩ := hO.ex
  have hc := cf_ok C.w
  have hx : C.h₀.get? x = some (instObj 507 dx) := hb _ (.head _)
  have hdx : C.h₀.get? dx = some od := hb _ (.tail _ (.head _))
  refine w_cons ?_
  walk_at "ww"
  refine w_LCgen (F' := fn_ufC) ufC_ok (cl := []) (fun L => by kernel_rfl) (by kernel_rfl) (by kernel_rfl) (by kernel_rfl) (by kernel_rfl) (Fg := fn_upfa) (body := bodyOf (fdAt 438)) (N := (backsG (fitG bits.length 0 gs)).length) (Out := outOf (backsG (fitG bits.length 0 gs)))
    (V₀ := [some (.ref x), some (.bytes data.toArray t1), some (.int off t2), some (.bool allow), none, none, none, none, none]) (Nat.le_trans (fitG_len _ _ _) (by omega)) (ws_MethodCall ?_) ?_
  · walk_at "ww"
    refine w_methInst (.inr hx) (.inr hdx) hD (hc.hg _) (by kernel_rfl) (by kernel_rfl) (by kernel_rfl) (f := 438) ?_
    refine ws_cwK ?_
    walk_at "ww"
    refine ws_callGen (F := fn_upfa) (vals := [_, _, _, _]) (upfa_is C.w) rfl rfl (fun s v => BindsTo.of_eq (by kernel_rfl)) (by show 4 ≤ 9; decide) (V₀ := [some (.ref x), some (.bytes data.toArray t1), some (.int off t2), some (.bool allow), none, none, none, none, none]) rfl (fun s s1 a g L v fg => ?_)
    refine ⟨s, _, _, a, g, L, rfl, v, fg, fun K s2 hKd hK hgu hkeep hns hos => ?_, fun D ws hws hout => ?_⟩
    · refine upfa_goes hZ hS hG hdl hgsz (by have := C.aok; rw [hn] at this; exact this.in1) v.base (fun p hp => v.old (hb p hp)) fg.newL hK hKd hgu hkeep hns hos hbits hfit hen
    · walk_at "ww"
      refine w_tuple_list (.inl (.head _)) (.listO _ _) (by rw [hws]; have := fitG_len bits.length gs 0; omega) fun b => ?_
      walk_at "ww"
      exact ⟨_, .take .here .nil, b, ws, rfl, rfl, PVs.of_outs hws hout⟩
  · rintro C' V' H' T i y hw' hT hV'
    have ok := ufC_ok
    obtain ⟨v0, rfl⟩ : ∃ v0, V' = [v0] := by
      match V', hV' with
      | [v0], _ => exact ⟨v0, rfl⟩
    refine w_assign_Name ?_
    walk_at "ww"
    refine w_itup (.inl hT) (i := 1) (x := y) rfl rfl (by decide) ?_
    exact ⟨rfl, rfl, .rfl⟩


theorem cf_uf_sp {w : World} {x : Addr} {is : List II} {low : Bool} {Z : Led} {gs : List G} {data : List UInt8} {off : Nat} {t1 t2 : Tok} {allow : Bool} {bits : List Bool} (hZ : CfL x is low Z) (hS : is.map II.spec = specOf 0 gs) (hG : ∀ g ∈ gs, g.Ok) (hgl : gs.length ≤ 1000) (hgsz : sizes gs ≤ 1000)
    (hdl : data.length ≤ 100) (hbits : bits = (bitsB data).drop off) (hfit : Fits low bits 0 gs) (hen : allow = true ∨ sizes gs ≤ bits.length) :
    Sp w 8 (call (.ref 504) [.ref x, .bytes data.toArray t1, .int off t2] [(Str.ofString "allow_truncated", .bool allow)]) [] (ledIn Z) (fun v P' => ∃ a vs, v = .ref a ∧ P' = [(a, tupO vs)] ∧ PVs (backsG (fitG bits.length 0 gs)) vs) NoX := by
  refine Sp.def (F := fn_cf_uf) (n := 7) (vals := [_, _, _, _]) (cf_uf_is w) rfl rfl (fun s A p => binds_K (T := 499) (o := tupO [.int 0 1069, .bool false]) p.kin rfl (by kernel_rfl) rfl rfl rfl) (by show 4 ≤ 4; decide) (V₀ := [some (.ref x), some (.bytes data.toArray t1), some (.int off t2), some (.bool allow)]) rfl (fun C hw hn hb => W.shrink (cf_uf_body hZ hS hG hgl hgsz hdl hbits hfit hen C hw hn hb))
theorem cf_uf_sp0 {w : World} {x : Addr} {is : List II} {low : Bool} {Z : Led} {gs : List G} {data : List UInt8} {t1 : Tok} {allow : Bool} {bits : List Bool} (hZ : CfL x is low Z) (hS : is.map II.spec = specOf 0 gs) (hG : ∀ g ∈ gs, g.Ok) (hgl : gs.length ≤ 1000) (hgsz : sizes gs ≤ 1000)
    (hdl : data.length ≤ 100) (hbits : bits = bitsB data) (hfit : Fits low bits 0 gs) (hen : allow = true ∨ sizes gs ≤ bits.length) :
    Sp w 8 (call (.ref 504) [.ref x, .bytes data.toArray t1] [(Str.ofString "allow_truncated", .bool allow)]) [] (ledIn Z) (fun v P' => ∃ a vs, v = .ref a ∧ P' = [(a, tupO vs)] ∧ PVs (backsG (fitG bits.length 0 gs)) vs) NoX := by
  refine Sp.def (F := fn_cf_uf) (n := 7) (vals := [.ref x, .bytes data.toArray t1, .int 0 1069, .bool allow]) (cf_uf_is w) rfl rfl (fun s A p => binds_K (T := 499) (o := tupO [.int 0 1069, .bool false]) p.kin rfl (by kernel_rfl) rfl rfl rfl) (by show 4 ≤ 4; decide) (V₀ := [some (.ref x), some (.bytes data.toArray t1), some (.int (0 : Nat) 1069), some (.bool allow)]) rfl (fun C hw hn hb => W.shrink (cf_uf_body (off := 0) hZ hS hG hgl hgsz hdl (by rw [hbits, List.drop_zero]) hfit hen C hw hn hb))
theorem m_uf_body {w : World} {fs : List Fi} {gs : List G} {tail : Option Bool} {data : List UInt8} {off : Nat} {t1 t2 t3 t4 t5 : Tok} {allow : Bool} {bits : List Bool} (hF : FmtOk fs gs)
    (hdl : data.length ≤ 100) (hbits : bits = (bitsB data).drop off) (hfit : Fits (tail.getD false) bits 0 gs) (hen : allow = true ∨ sizes gs ≤ bits.length) (C : Cx fn_m_uf) (hw : C.w = w) (hn : C.n = 8) :
    W C NoE (execs (bodyOf (fdAt 539)) C.env) [some (.str (S (fmtL fs ++ tailL tail)) t1), some (.bytes data.toArray t2), some (.int off t3), some (.bool allow), some (.str (S utf8L) t4), some (.str (S strictL) t5)] []
      (fun f _ H' => ∃ H'', SubP H'' H' ∧ ∃ a vs, (match f with | .ret v => v | _ => .none) = Value.ref a ∧ H'' = [(a, tupO vs)] ∧ PVs (backsG (fitG bits.length 0 gs)) vs) := by
  have ok := (m_uf_is w).ok
  subst hw
  refine w_cons ?_
  walk_at "ww"
  ktf_call 507
  walk_at "ww"
  refine w_newCf3 (by omega) hF.ok hF.ne hF.len fun x is Z hS hZ => ?_
  obtain ⟨dx, od, l, n, L, hI, hO, rfl⟩ := id hZ.ex
  obtain ⟨ko, kb, ka, hD⟩ := hO.ex
  have hc := cf_ok C.w
  walk_at "ww"
  refine w_methInst (.inl (.head _)) (.inl (.tail _ (.head _))) hD (hc.hg _) (by kernel_rfl) (by kernel_rfl) (by kernel_rfl) (f := 504) ?_
  refine w_cwK ?_
  walk_at "ww"
  refine w_sp (P := []) (cf_uf_sp hZ (hS.trans hF.spec) hF.grp hF.gl (by have := hF.size; omega) hdl hbits hfit hen) (by omega) .rfl (fun hp k p hp' => k _ _ (.inl (List.mem_append_left [] hp'))) ?_
  rintro v P' ⟨a, vs, rfl, rfl, hvs⟩
  walk_at "ww"
  exact ⟨[(a, tupO vs)], .take .here .nil, a, vs, rfl, rfl, hvs⟩
theorem m_uf_sp {w : World} {fs : List Fi} {gs : List G} {tail : Option Bool} {data : List UInt8} {off : Nat} {t1 t2 t3 : Tok} {bits : List Bool} (hF : FmtOk fs gs)
    (hdl : data.length ≤ 100) (hbits : bits = (bitsB data).drop off) (hfit : Fits (tail.getD false) bits 0 gs) (hen : sizes gs ≤ bits.length) :
    Sp w 9 (call (.ref 539) [.str (S (fmtL fs ++ tailL tail)) t1, .bytes data.toArray t2, .int off t3]) [] (fun _ => True) (fun v P' => ∃ a vs, v = .ref a ∧ P' = [(a, tupO vs)] ∧ PVs (backsG (fitG bits.length 0 gs)) vs) NoX := by
  refine Sp.def (F := fn_m_uf) (n := 8) (vals := [_, _, _, .bool false, .str (Str.ofString "utf-8") 1117, .str (Str.ofString "strict") 1118]) (m_uf_is w) rfl rfl (fun s A p => binds_K (T := 532) (o := tupO [.int 0 1116, .bool false, .str (Str.ofString "utf-8") 1117, .str (Str.ofString "strict") 1118]) p.kin rfl (by kernel_rfl) rfl rfl rfl) (by show 6 ≤ 6; decide)
    (V₀ := [some (.str (S (fmtL fs ++ tailL tail)) t1), some (.bytes data.toArray t2), some (.int off t3), some (.bool false), some (.str (S utf8L) 1117), some (.str (S strictL) 1118)]) (by kernel_rfl) (fun C hw hn hb => W.shrink (m_uf_body hF hdl hbits hfit (.inr hen) C hw hn))
theorem m_ufT_sp {w : World} {fs : List Fi} {gs : List G} {tail : Option Bool} {data : List UInt8} {off : Nat} {t1 t2 t3 : Tok} {bits : List Bool} (hF : FmtOk fs gs)
    (hdl : data.length ≤ 100) (hbits : bits = (bitsB data).drop off) (hfit : Fits (tail.getD false) bits 0 gs) :
    Sp w 9 (call (.ref 539) [.str (S (fmtL fs ++ tailL tail)) t1, .bytes data.toArray t2, .int off t3] [(Str.ofString "allow_truncated", .bool true)]) [] (fun _ => True) (fun v P' => ∃ a vs, v = .ref a ∧ P' = [(a, tupO vs)] ∧ PVs (backsG (fitG bits.length 0 gs)) vs) NoX := by
  refine Sp.def (F := fn_m_uf) (n := 8) (vals := [_, _, _, .bool true, .str (Str.ofString "utf-8") 1117, .str (Str.ofString "strict") 1118]) (m_uf_is w) rfl rfl (fun s A p => binds_K (T := 532) (o := tupO [.int 0 1116, .bool false, .str (Str.ofString "utf-8") 1117, .str (Str.ofString "strict") 1118]) p.kin rfl (by kernel_rfl) rfl rfl rfl) (by show 6 ≤ 6; decide)
    (V₀ := [some (.str (S (fmtL fs ++ tailL tail)) t1), some (.bytes data.toArray t2), some (.int off t3), some (.bool true), some (.str (S utf8L) 1117), some (.str (S strictL) 1118)]) (by kernel_rfl) (fun C hw hn hb => W.shrink (m_uf_body hF hdl hbits hfit (.inl rfl) C hw hn))
/-! unpack -/
theorem cf_unpack_sp {w : World} {x : Addr} {is : List II} {low : Bool} {Z : Led} {gs : List G} {data : List UInt8} {t1 : Tok} {bits : List Bool} (hZ : CfL x is low Z) (hS : is.map II.spec = specOf 0 gs) (hG : ∀ g ∈ gs, g.Ok) (hgl : gs.length ≤ 1000) (hgsz : sizes gs ≤ 1000)
    (hdl : data.length ≤ 100) (hbits : bits = bitsB data) (hfit : Fits low bits 0 gs) (hen : sizes gs ≤ bits.length) :
    Sp w 9 (call (.ref 491) [.ref x, .bytes data.toArray t1] [(Str.ofString "allow_truncated", .bool false)]) [] (ledIn Z) (fun v P' => ∃ a vs, v = .ref a ∧ P' = [(a, tupO vs)] ∧ PVs (backsG (fitG bits.length 0 gs)) vs) NoX := by
  refine Sp.def (F := fn_cf_unpack) (n := 8) (vals := [_, _, _]) (cf_unpack_is w) rfl rfl (fun s A p => binds_K (T := 484) (o := tupO [.bool false]) p.kin rfl (by kernel_rfl) rfl rfl rfl) (by show 3 ≤ 3; decide) (V₀ := [some (.ref x), some (.bytes data.toArray t1), some (.bool false)]) rfl (fun C hw hn hb => W.shrink ?_)
  have ok := (cf_unpack_is w).ok
  subst hw
  obtain ⟨dx, od, l, n, L, hI, hO, rfl⟩ := id hZ.ex
  obtain ⟨ko, kb, ka, hD⟩ := hO.ex
  have hc := cf_ok C.w
  have hx : C.h₀.get? x = some (instObj 507 dx) := hb _ (.head _)
  have hdx : C.h₀.get? dx = some od := hb _ (.tail _ (.head _))
  walk_at "ww"
  refine w_methInst (.inr hx) (.inr hdx) hD (hc.hg _) (by kernel_rfl) (by kernel_rfl) (by kernel_rfl) (f := 504) ?_
  refine w_cwK ?_
  walk_at "ww"
  refine w_sp (P := []) (cf_uf_sp0 hZ hS hG hgl hgsz hdl hbits hfit (.inr hen)) (by omega) .rfl (fun hp k p hp' => k _ _ (.inr (hb p hp'))) ?_
  rintro v P' ⟨a, vs, rfl, rfl, hvs⟩
  walk_at "ww"
  exact ⟨[(a, tupO vs)], .take .here .nil, a, vs, rfl, rfl, hvs⟩
theorem m_unpack_sp {w : World} {fs : List Fi} {gs : List G} {tail : Option Bool} {data : List UInt8} {t1 t2 : Tok} {bits : List Bool} (hF : FmtOk fs gs)
    (hdl : data.length ≤ 100) (hbits : bits = bitsB data) (hfit : Fits (tail.getD false) bits 0 gs) (hen : sizes gs ≤ bits.length) :
    Sp w 10 (call (.ref 524) [.str (S (fmtL fs ++ tailL tail)) t1, .bytes data.toArray t2]) [] (fun _ => True) (fun v P' => ∃ a vs, v = .ref a ∧ P' = [(a, tupO vs)] ∧ PVs (backsG (fitG bits.length 0 gs)) vs) NoX := by
  refine Sp.def (F := fn_m_unpack) (n := 9) (vals := [_, _, .bool false, .str (Str.ofString "utf-8") 1091, .str (Str.ofString "strict") 1092]) (m_unpack_is w) rfl rfl (fun s A p => binds_K (T := 517) (o := tupO [.bool false, .str (Str.ofString "utf-8") 1091, .str (Str.ofString "strict") 1092]) p.kin rfl (by kernel_rfl) rfl rfl rfl) (by show 5 ≤ 5; decide)
    (V₀ := [some (.str (S (fmtL fs ++ tailL tail)) t1), some (.bytes data.toArray t2), some (.bool false), some (.str (S utf8L) 1091), some (.str (S strictL) 1092)]) (by kernel_rfl) (fun C hw hn hb => W.shrink ?_)
  have ok := (m_unpack_is w).ok
  subst hw
  refine w_cons ?_
  walk_at "ww"
  ktf_call 507
  walk_at "ww"
  refine w_newCf3 (by omega) hF.ok hF.ne hF.len fun x is Z hS hZ => ?_
  obtain ⟨dx, od, l, n, L, hI, hO, rfl⟩ := id hZ.ex
  obtain ⟨ko, kb, ka, hD⟩ := hO.ex
  have hc := cf_ok C.w
  walk_at "ww"
  refine w_methInst (.inl (.head _)) (.inl (.tail _ (.head _))) hD (hc.hg _) (by kernel_rfl) (by kernel_rfl) (by kernel_rfl) (f := 491) ?_
  refine w_cwK ?_
  walk_at "ww"
  refine w_sp (P := []) (cf_unpack_sp hZ (hS.trans hF.spec) hF.grp hF.gl (by have := hF.size; omega) hdl hbits hfit hen) (by omega) .rfl (fun hp k p hp' => k _ _ (.inl (List.mem_append_left [] hp'))) ?_
  rintro v P' ⟨a, vs, rfl, rfl, hvs⟩
  walk_at "ww"
  exact ⟨[(a, tupO vs)], .take .here .nil, a, vs, rfl, rfl, hvs⟩
-- part Q1
/-! the plain law: bits laid, bits packed -/
noncomputable def seg (low : Bool) (o : Nat) (g : G) : List Bool := if g.kind ∈ [112, 80] then List.replicate g.size (decide (g.kind = 80)) else encB low g.kind g.little o (bitsN g.size g.num)
theorem encG_seg (low : Bool) (B : List Bool) (g : G) : encG low B g = B ++ seg low B.length g := rfl
theorem seg_len (low : Bool) (o : Nat) (g : G) : (seg low o g).length = g.size := by
  unfold seg
  split
  · rw [List.length_replicate]
  · rw [encB_len, bitsN_len]
noncomputable def encs (low : Bool) : Nat → List G → List Bool
  | _, [] => []
  | o, g :: r => seg low o g ++ encs low (o + g.size) r
theorem encs_len (low : Bool) : ∀ (gs : List G) (o : Nat), (encs low o gs).length = sizes gs
  | [], _ => rfl
  | g :: r, o => by rw [encs, List.length_append, seg_len, encs_len low r, sizes_cons]
theorem encAll_encs (low : Bool) : ∀ (gs : List G) (B : List Bool), encAll low B gs = B ++ encs low B.length gs
  | [], B => by unfold encAll encs; simp
  | g :: r, B => by
    show encAll low (encG low B g) r = _
    rw [encAll_encs low r, encG_seg, List.append_assoc, encs, List.length_append, seg_len]
theorem sizes_append (a b : List G) : sizes (a ++ b) = sizes a + sizes b := by unfold sizes; rw [List.map_append, List.sum_append]
theorem encs_append (low : Bool) : ∀ (a b : List G) (o : Nat), encs low o (a ++ b) = encs low o a ++ encs low (o + sizes a) b
  | [], b, o => by rw [encs]; simp [sizes]
  | g :: r, b, o => by
    show seg low o g ++ encs low (o + g.size) (r ++ b) = _
    rw [encs_append low r, ← List.append_assoc, sizes_cons, Nat.add_assoc, encs]
theorem seg_mod {low : Bool} {o o' : Nat} {g : G} (h : low = true → o % 8 = o' % 8) : seg low o g = seg low o' g := by
  unfold seg encB
  cases low with
  | false => rfl
  | true => rw [h rfl]
theorem encs_mod {low : Bool} : ∀ {gs : List G} {o o' : Nat}, (low = true → o % 8 = o' % 8) → encs low o gs = encs low o' gs
  | [], _, _, _ => rfl
  | g :: r, o, o', h => by
    rw [encs, encs, seg_mod h, encs_mod (gs := r) (o := o + g.size) (o' := o' + g.size) fun e => by have := h e; omega]
theorem chk_rep (b : Bool) : ∀ (f n r : Nat), chk f (List.replicate n b) r = List.replicate n b
  | 0, _, _ => rfl
  | f + 1, n, r => by
    unfold chk
    split
    · rfl
    · rw [List.drop_replicate, List.take_replicate, List.length_replicate, chk_rep b f, List.replicate_append_replicate]
      congr 1
      rw [List.length_replicate] at *
      omega
theorem encB_rep {low : Bool} {kd : Nat} {little : Bool} {o n : Nat} {b : Bool} : encB low kd little o (List.replicate n b) = List.replicate n b := by
  unfold encB
  have e : (if little = true then (List.replicate n b).reverse else List.replicate n b) = List.replicate n b := by split <;> simp
  rw [e]
  split
  · rfl
  · exact chk_rep _ _ _ _
theorem bits_zero (n : Nat) : bitsN n 0 = List.replicate n false := by
  refine bits_ext (by rw [bitsN_len, List.length_replicate]) ?_
  rw [valb_bits, valb_zeros, Nat.zero_mod]
theorem valb_ones (n : Nat) : valb (List.replicate n true) = 2 ^ n - 1 := by
  induction n with
  | zero => rfl
  | succ n ih =>
    rw [List.replicate_succ', valb_snoc, ih, Nat.pow_succ]
    have := Nat.two_pow_pos n
    show (2 ^ n - 1) * 2 + 1 = _
    omega
theorem bits_ones (n : Nat) : bitsN n (2 ^ n - 1) = List.replicate n true := by
  refine bits_ext (by rw [bitsN_len, List.length_replicate]) ?_
  rw [valb_bits, valb_ones, Nat.mod_eq_of_lt (by have := Nat.two_pow_pos n; omega)]
theorem seg_enc {low : Bool} {o : Nat} {g : G} (h : g.Ok) : seg low o g = encB low g.kind g.little o (bitsN g.size g.num) := by
  unfold seg
  split
  · rename_i hk
    have key : ∀ {kd size num : Nat} {val back : PV}, FG kd size num val back → kd ∈ [112, 80] → bitsN size num = List.replicate size (decide (kd = 80)) := by
      intro kd size num val back hg hk
      cases hg <;> first | exact absurd hk (by decide) | exact bits_zero _ | exact bits_ones _
    rw [key h hk, encB_rep]
  · rfl
theorem G.Ok.lt {g : G} (h : g.Ok) : g.num < 2 ^ g.size := by
  have key : ∀ {kd size num : Nat} {val back : PV}, FG kd size num val back → num < 2 ^ size := by
    intro kd size num val back hg
    cases hg with
    | u h1 h2 h3 => exact h3
    | s h1 h2 h3 h4 h5 =>
      have := Int.emod_lt_of_pos (a := ‹Int›) (b := ((2 ^ size : Nat) : Int)) (by have := Nat.two_pow_pos size; omega)
      omega
    | b h1 h2 h3 => exact Nat.lt_of_le_of_lt (Nat.min_le_right _ _) (Nat.lt_of_lt_of_le (by decide : 1 < 2 ^ 1) (pow_lt_pow_two h1))
    | r h1 h2 h3 h4 => exact h3
    | @t c k h1 h2 h3 h4 =>
      have e : 2 ^ (8 * k) = 256 * 2 ^ (8 * k - 8) := by
        rw [show (256 : Nat) = 2 ^ 8 from rfl, ← Nat.pow_add]; congr 1; omega
      rw [e]
      exact Nat.mul_lt_mul_of_pos_right (by omega) (Nat.two_pow_pos _)
    | t3 h1 h2 h3 h4 => have : (2 : Nat) ^ 24 = 16777216 := by decide
                        omega
    | p h1 h2 => exact Nat.two_pow_pos _
    | P h1 h2 => have := Nat.two_pow_pos size; omega
  exact key h
theorem turn_rev : ∀ (k o n : Nat), turnGo k o n = o * 2 ^ k + valb (bitsN k n).reverse
  | 0, o, n => by show o = _; simp [bitsN, digs, valb, foldD]
  | k + 1, o, n => by
    show turnGo k (o * 2 + n % 2) (n / 2) = _
    rw [turn_rev k, bitsN_succ, List.reverse_append, List.reverse_cons, List.reverse_nil, List.nil_append, valb_append, List.length_reverse, bitsN_len, Nat.pow_succ, Nat.add_mul]
    have e : valb [decide (n % 2 = 1)] = n % 2 := by
      rcases Nat.mod_two_eq_zero_or_one n with h | h <;> rw [h] <;> rfl
    rw [e, Nat.mul_assoc, Nat.mul_comm 2 (2 ^ k)]
    omega
theorem putN_bits {B X : List Bool} {T : Nat} (h : B.length + X.length ≤ T) : putN (valb B * 2 ^ (T - B.length)) T B.length X.length (valb X) = valb (B ++ X) * 2 ^ (T - (B.length + X.length)) := by
  unfold putN
  obtain ⟨l, hl⟩ : ∃ l, l = T - B.length - X.length := ⟨_, rfl⟩
  rw [← hl, show T - B.length = X.length + l by omega, show T - (B.length + X.length) = l by omega, ← Nat.pow_add, Nat.add_comm l X.length, Nat.mul_div_cancel _ (Nat.two_pow_pos _), Nat.pow_add, ← Nat.mul_assoc, Nat.mul_mod_left, Nat.add_zero, valb_append]
theorem valb_split (W : List Bool) (a : Nat) (h : a ≤ W.length) : valb W % 2 ^ a = valb (W.drop (W.length - a)) ∧ valb W / 2 ^ a = valb (W.take (W.length - a)) := by
  have e := valb_append (W.take (W.length - a)) (W.drop (W.length - a))
  rw [List.take_append_drop] at e
  have hl : (W.drop (W.length - a)).length = a := by rw [List.length_drop]; omega
  have hlt := valb_lt (W.drop (W.length - a))
  rw [hl] at e hlt
  rw [e]
  constructor
  · rw [Nat.add_comm, Nat.add_mul_mod_self_right, Nat.mod_eq_of_lt hlt]
  · rw [Nat.add_comm, Nat.add_mul_div_right _ _ (Nat.two_pow_pos _), Nat.div_eq_of_lt hlt, Nat.zero_add]
theorem lowGo_bits : ∀ (f : Nat) (B W : List Bool) (T : Nat), W.length ≤ f → B.length + W.length ≤ T →
    lowGo f (valb B * 2 ^ (T - B.length)) T B.length W.length (valb W) = valb (B ++ chk f W (8 - B.length % 8)) * 2 ^ (T - (B.length + W.length))
  | 0, B, W, T, hf, h => by
    have : W = [] := List.eq_nil_of_length_eq_zero (by omega)
    subst this
    show valb B * 2 ^ (T - B.length) = valb (B ++ []) * _
    rw [List.append_nil]; rfl
  | f + 1, B, W, T, hf, h => by
    unfold lowGo
    by_cases h0 : W.length = 0
    · rw [if_pos h0, chk_short (by omega)]
      have : W = [] := List.eq_nil_of_length_eq_zero h0
      subst this
      rw [List.append_nil]; rfl
    · rw [if_neg h0]
      obtain ⟨r, hr⟩ : ∃ r, r = 8 - B.length % 8 := ⟨_, rfl⟩
      rw [← hr]
      obtain ⟨rm, hrm⟩ : ∃ rm, rm = min r W.length := ⟨_, rfl⟩
      rw [← hrm]
      have hrl : rm ≤ W.length := by omega
      obtain ⟨e1, e2⟩ := valb_split W rm hrl
      have hdl : (W.drop (W.length - rm)).length = rm := by rw [List.length_drop]; omega
      have htl : (W.take (W.length - rm)).length = W.length - rm := by rw [List.length_take]; omega
      have hp := putN_bits (B := B) (X := W.drop (W.length - rm)) (T := T) (by rw [hdl]; omega)
      rw [hdl] at hp
      rw [e1, e2, hp]
      have hBX : (B ++ W.drop (W.length - rm)).length = B.length + rm := by rw [List.length_append, hdl]
      have key := lowGo_bits f (B ++ W.drop (W.length - rm)) (W.take (W.length - rm)) T (by rw [htl]; omega) (by rw [hBX, htl]; omega)
      rw [hBX, htl] at key
      rw [key, show B.length + rm + (W.length - rm) = B.length + W.length by omega, List.append_assoc]
      congr 3
      have e3 : chk (f + 1) W r = if W.length ≤ r then W else W.drop (W.length - r) ++ chk f (W.take (W.length - r)) 8 := rfl
      rw [e3]
      by_cases q : W.length ≤ r
      · have : rm = W.length := by omega
        rw [if_pos q, this, Nat.sub_self, List.drop_zero, List.take_zero]
        cases f with
        | zero => simp [chk]
        | succ f => simp [chk]
      · have : rm = r := by omega
        rw [if_neg q, this, show 8 - (B.length + r) % 8 = 8 by omega]
theorem laid_bits {low : Bool} {B : List Bool} {T : Nat} {g : G} (hg : g.Ok) (h : B.length + g.size ≤ T) : laidN low (valb B * 2 ^ (T - B.length)) T B.length g = valb (B ++ seg low B.length g) * 2 ^ (T - (B.length + g.size)) := by
  rw [seg_enc hg]
  obtain ⟨wb, hwb⟩ : ∃ wb, wb = if g.little = true then (bitsN g.size g.num).reverse else bitsN g.size g.num := ⟨_, rfl⟩
  have hwl : wb.length = g.size := by rw [hwb]; split <;> simp [bitsN_len]
  have hv : (if g.little = true then turnGo g.size 0 g.num else g.num) = valb wb := by
    rw [hwb]
    split
    · rw [turn_rev, Nat.zero_mul, Nat.zero_add]
    · rw [valb_bits, Nat.mod_eq_of_lt hg.lt]
  unfold laidN encB
  rw [hv, ← hwb, bitsN_len]
  split
  · have := putN_bits (B := B) (X := wb) (T := T) (by rw [hwl]; exact h)
    rw [hwl] at this
    exact this
  · have := lowGo_bits g.size B wb T (by omega) (by rw [hwl]; exact h)
    rw [hwl] at this
    exact this
noncomputable def laidAll (low : Bool) (T : Nat) : Nat → Nat → List G → Nat
  | h, _, [] => h
  | h, p, g :: r => laidAll low T (laidN low h T p g) (p + g.size) r
theorem laidAll_bits {low : Bool} {T : Nat} : ∀ (gs : List G) (B : List Bool), (∀ g ∈ gs, g.Ok) → B.length + sizes gs ≤ T → laidAll low T (valb B * 2 ^ (T - B.length)) B.length gs = valb (B ++ encs low B.length gs) * 2 ^ (T - (B.length + sizes gs))
  | [], B, _, _ => by show valb B * _ = valb (B ++ []) * _; rw [List.append_nil]; rfl
  | g :: r, B, hg, h => by
    rw [sizes_cons] at h
    rw [laidAll, laid_bits (hg g (.head _)) (by omega), encs, ← List.append_assoc]
    have e : (B ++ seg low B.length g).length = B.length + g.size := by rw [List.length_append, seg_len]
    have := laidAll_bits (low := low) (T := T) r (B ++ seg low B.length g) (fun x hx => hg x (.tail _ hx)) (by rw [e]; omega)
    rw [e] at this
    rw [this, sizes_cons, Nat.add_assoc]
/-- the number that the law lays, as bytes: what pack answers -/
theorem want_eq {low : Bool} {gs : List G} (hg : ∀ g ∈ gs, g.Ok) : bytesN ((sizes gs + 7) / 8) (laidAll low (8 * ((sizes gs + 7) / 8)) 0 0 gs) = unB (encAll low [] gs) := by
  have := laidAll_bits (low := low) (T := 8 * ((sizes gs + 7) / 8)) gs [] hg (by show 0 + sizes gs ≤ _; omega)
  have e0 : valb [] * 2 ^ (8 * ((sizes gs + 7) / 8) - ([] : List Bool).length) = 0 := by show 0 * _ = 0; rw [Nat.zero_mul]
  rw [e0] at this
  have e1 : ([] : List Bool).length = 0 := rfl
  rw [e1] at this
  rw [this, encAll_encs]
  simp only [List.nil_append, Nat.zero_add, List.length_nil]
  unfold unB
  rw [encs_len]
-- part Q2
/-! bits of bytes; writing in place; what fits -/
theorem bitsB_unB (bits : List Bool) : bitsB (unB bits) = bits ++ List.replicate (8 * ((bits.length + 7) / 8) - bits.length) false := by
  unfold unB
  rw [bitsB_bytesN]
  refine bits_ext ?_ ?_
  · rw [bitsN_len, List.length_append, List.length_replicate]; omega
  · have h := valb_lt bits
    obtain ⟨p, hp⟩ : ∃ p, p = 8 * ((bits.length + 7) / 8) - bits.length := ⟨_, rfl⟩
    have e : 8 * ((bits.length + 7) / 8) = bits.length + p := by omega
    rw [valb_bits, valb_append, valb_zeros, List.length_replicate, Nat.add_zero, ← hp, e]
    refine Nat.mod_eq_of_lt ?_
    rw [Nat.pow_add]
    exact Nat.mul_lt_mul_of_pos_right h (Nat.two_pow_pos _)
theorem bitsB_unB8 {X : List Bool} (h : X.length % 8 = 0) : bitsB (unB X) = X := by
  rw [bitsB_unB, show 8 * ((X.length + 7) / 8) - X.length = 0 by omega]; simp
theorem bitsB_append (a b : List UInt8) : bitsB (a ++ b) = bitsB a ++ bitsB b := by
  have e : vB (a ++ b) = vB a * 2 ^ (8 * b.length) + vB b := by
    unfold vB
    rw [hexDs_append, foldD_append, foldD_acc16, hexDs_len, pow16]
  have hb := vB_lt b
  unfold bitsB
  rw [List.length_append, Nat.mul_add, bitsN_append, e]
  congr 1
  · rw [Nat.add_comm, Nat.add_mul_div_right _ _ (Nat.two_pow_pos _), Nat.div_eq_of_lt hb, Nat.zero_add]
  · rw [← bitsN_mod (Nat.le_refl _), Nat.add_comm, Nat.add_mul_mod_self_right, bitsN_mod (Nat.le_refl _)]
theorem bitsB_take (a : List UInt8) (d : Nat) : bitsB (a.take d) = (bitsB a).take (8 * d) := by
  by_cases h : d ≤ a.length
  · have e := bitsB_append (a.take d) (a.drop d)
    rw [List.take_append_drop] at e
    have hl : (bitsB (a.take d)).length = 8 * d := by rw [bitsB_len, List.length_take]; omega
    have e2 : (bitsB a).take (8 * d) = (bitsB (a.take d) ++ bitsB (a.drop d)).take (8 * d) := by rw [← e]
    rw [e2, List.take_append_of_le_length (by omega)]
    exact (List.take_of_length_le (by omega)).symm
  · rw [List.take_of_length_le (by omega), List.take_of_length_le (by rw [bitsB_len]; omega)]
theorem unB_zero (c : Nat) : List.replicate c (0 : UInt8) = unB (List.replicate (8 * c) false) := by
  unfold unB
  rw [valb_zeros, Nat.zero_mul, List.length_replicate, show (8 * c + 7) / 8 = c by omega]
  unfold bytesN
  have : ∀ c : Nat, digs 256 c 0 = List.replicate c 0 := by
    intro c
    induction c with
    | zero => rfl
    | succ c ih =>
      show digs 256 c (0 / 256) ++ [0 % 256] = _
      rw [Nat.zero_div, ih, List.replicate_succ']
  rw [this, List.map_replicate]; rfl
theorem into_bits {low : Bool} {bs : List UInt8} {off : Nat} {gs : List G} (h : off + sizes gs ≤ 8 * bs.length) : bitsB (intoB low bs off gs) = (bitsB bs).take off ++ encs low off gs ++ (bitsB bs).drop (off + sizes gs) := by
  unfold intoB
  have hl : ((bitsB bs).take off).length = off := by rw [List.length_take, bitsB_len]; omega
  rw [encAll_encs, hl, bitsB_unB8]
  rw [List.length_append, List.length_append, hl, encs_len, List.length_drop, bitsB_len]; omega
theorem into_un {low : Bool} {bs : List UInt8} {off : Nat} {gs : List G} (h : off + sizes gs ≤ 8 * bs.length) : intoB low bs off gs = unB (bitsB (intoB low bs off gs)) := by
  rw [into_bits h]
  unfold intoB
  have hl : ((bitsB bs).take off).length = off := by rw [List.length_take, bitsB_len]; omega
  rw [encAll_encs, hl]
theorem into_get {low : Bool} {bs : List UInt8} {off : Nat} {gs : List G} (h : off + sizes gs ≤ 8 * bs.length) (i : Nat) :
    (bitsB (intoB low bs off gs))[i]? = if off ≤ i ∧ i < off + sizes gs then (encs low off gs)[i - off]? else (bitsB bs)[i]? := by
  rw [into_bits h]
  have hl : ((bitsB bs).take off).length = off := by rw [List.length_take, bitsB_len]; omega
  have hm : ((bitsB bs).take off ++ encs low off gs).length = off + sizes gs := by rw [List.length_append, hl, encs_len]
  by_cases h1 : i < off
  · rw [if_neg (by omega), List.append_assoc, List.getElem?_append_left (by omega), List.getElem?_take, if_pos h1]
  · by_cases h2 : i < off + sizes gs
    · rw [if_pos ⟨by omega, h2⟩, List.getElem?_append_left (by omega), List.getElem?_append_right (by omega), hl]
    · rw [if_neg (by omega), List.getElem?_append_right (by omega), hm, List.getElem?_drop]
      congr 1; omega
/-- all the bits of the plan -/
noncomputable def fullB (low : Bool) (gs : List G) : List Bool := encs low 0 gs ++ List.replicate (8 * ((sizes gs + 7) / 8) - sizes gs) false
theorem fullB_len (low : Bool) (gs : List G) : (fullB low gs).length = 8 * ((sizes gs + 7) / 8) := by
  unfold fullB
  rw [List.length_append, encs_len, List.length_replicate]; omega
theorem want_bits (low : Bool) (gs : List G) : bitsB (unB (encAll low [] gs)) = fullB low gs := by
  rw [bitsB_unB, encAll_encs, List.nil_append, encs_len]; rfl
theorem want_un (low : Bool) (gs : List G) : unB (encAll low [] gs) = unB (fullB low gs) := by
  unfold fullB
  rw [encAll_encs, List.nil_append]
  by_cases h : sizes gs % 8 = 0
  · rw [show 8 * ((sizes gs + 7) / 8) - sizes gs = 0 by omega]; simp
  · rw [unB_pad (by show ((encs low 0 gs).length + _) % 8 = 0; rw [encs_len]; omega) (by omega)]; rfl
theorem want_len (low : Bool) (gs : List G) : (unB (encAll low [] gs)).length = (sizes gs + 7) / 8 := by
  unfold unB
  rw [bytesN_len, encAll_encs, List.nil_append, encs_len]
theorem full_get {low : Bool} {pre gs post : List G} {j : Nat} (h : j < sizes gs) : (fullB low (pre ++ gs ++ post))[sizes pre + j]? = (encs low (sizes pre) gs)[j]? := by
  unfold fullB
  rw [encs_append, encs_append, Nat.zero_add, List.append_assoc, List.append_assoc, List.getElem?_append_right (by rw [encs_len]; omega), encs_len, Nat.add_sub_cancel_left, List.getElem?_append_left (by rw [encs_len]; exact h)]
/-- after some writes: where the buffer is as it should be -/
structure InP (low : Bool) (all : List G) (P : Nat → Prop) (bs : List UInt8) : Prop where
  len : bs.length = (sizes all + 7) / 8
  un : bs = unB (bitsB bs)
  eq : ∀ i, P i ∨ sizes all ≤ i → (bitsB bs)[i]? = (fullB low all)[i]?
theorem InP.start (low : Bool) (all : List G) : InP low all (fun _ => False) (List.replicate ((sizes all + 7) / 8) (0 : UInt8)) := by
  have hu := unB_zero ((sizes all + 7) / 8)
  have hb : bitsB (List.replicate ((sizes all + 7) / 8) (0 : UInt8)) = List.replicate (8 * ((sizes all + 7) / 8)) false := by rw [hu, bitsB_unB8 (by rw [List.length_replicate]; omega)]
  refine ⟨List.length_replicate .., by rw [hb]; exact hu, fun i hi => ?_⟩
  have hi := hi.resolve_left id
  rw [hb]
  unfold fullB
  rw [List.getElem?_append_right (by rw [encs_len]; exact hi), encs_len, List.getElem?_replicate, List.getElem?_replicate]
  by_cases h : i < 8 * ((sizes all + 7) / 8)
  · rw [if_pos h, if_pos (by omega)]
  · rw [if_neg h, if_neg (by omega)]
theorem InP.write {low : Bool} {pre gs post : List G} {P : Nat → Prop} {bs : List UInt8} (h : InP low (pre ++ gs ++ post) P bs) :
    InP low (pre ++ gs ++ post) (fun i => P i ∨ (sizes pre ≤ i ∧ i < sizes pre + sizes gs)) (intoB low bs (sizes pre) gs) := by
  have hsz : sizes (pre ++ gs ++ post) = sizes pre + sizes gs + sizes post := by rw [sizes_append, sizes_append]
  have hle : sizes pre + sizes gs ≤ 8 * bs.length := by rw [h.len, hsz]; omega
  refine ⟨by rw [intoB_len hle]; exact h.len, into_un hle, fun i hi => ?_⟩
  rw [into_get hle]
  by_cases q : sizes pre ≤ i ∧ i < sizes pre + sizes gs
  · rw [if_pos q]
    obtain ⟨j, rfl⟩ : ∃ j, i = sizes pre + j := ⟨i - sizes pre, by omega⟩
    rw [Nat.add_sub_cancel_left, full_get (by omega)]
  · rw [if_neg q]
    refine h.eq i ?_
    rcases hi with (hi | hi) | hi
    · exact .inl hi
    · exact absurd hi q
    · exact .inr hi
theorem InP.done {low : Bool} {all : List G} {P : Nat → Prop} {bs : List UInt8} (h : InP low all P bs) (hP : ∀ i, i < sizes all → P i) : bs = unB (encAll low [] all) := by
  rw [h.un, want_un]
  congr 1
  refine List.ext_getElem? fun i => h.eq i ?_
  by_cases q : i < sizes all
  · exact .inl (hP i q)
  · exact .inr (by omega)
/-! reading -/
theorem fits_enc {low : Bool} {off : Nat} (hmod : low = true → off % 8 = 0) : ∀ (gs : List G) (o : Nat) (bits tail : List Bool), (∀ g ∈ gs, g.Ok) → bits.drop o = (encs low (off + o) gs ++ tail).take (bits.length - o) → Fits low bits o gs
  | [], _, _, _, _, _ => trivial
  | g :: r, o, bits, tail, hg, h => by
    have hs := seg_len low (off + o) g
    rw [encs, List.append_assoc] at h
    refine ⟨fun hle _ => ?_, fits_enc hmod r (o + g.size) bits tail (fun x hx => hg x (.tail _ hx)) ?_⟩
    · rw [h, List.take_take, Nat.min_eq_left (by omega), List.take_append_of_le_length (by rw [hs]; exact Nat.le_refl _), List.take_of_length_le (by rw [hs]; exact Nat.le_refl _), ← seg_enc (hg g (.head _))]
      exact seg_mod fun e => by have := hmod e; omega
    · rw [← List.drop_drop, h, List.drop_take, List.drop_append_of_le_length (by rw [hs]; exact Nat.le_refl _), List.drop_of_length_le (by rw [hs]; exact Nat.le_refl _), List.nil_append, ← Nat.add_assoc, Nat.sub_sub]
theorem fits_suffix {low : Bool} {pre gs post : List G} {m : Nat} (hmod : low = true → sizes pre % 8 = 0) (hg : ∀ g ∈ gs, g.Ok) : Fits low (((fullB low (pre ++ gs ++ post)).take m).drop (sizes pre)) 0 gs := by
  refine fits_enc (off := sizes pre) hmod gs 0 _ (encs low (sizes pre + sizes gs) post ++ List.replicate (8 * ((sizes (pre ++ gs ++ post) + 7) / 8) - sizes (pre ++ gs ++ post)) false) hg ?_
  have e : (fullB low (pre ++ gs ++ post)).drop (sizes pre) = encs low (sizes pre) gs ++ (encs low (sizes pre + sizes gs) post ++ List.replicate (8 * ((sizes (pre ++ gs ++ post) + 7) / 8) - sizes (pre ++ gs ++ post)) false) := by
    unfold fullB
    rw [encs_append, encs_append, Nat.zero_add, sizes_append pre gs, List.append_assoc, List.append_assoc, List.drop_append_of_le_length (by rw [encs_len]; exact Nat.le_refl _), List.drop_of_length_le (by rw [encs_len]; exact Nat.le_refl _), List.nil_append, Nat.zero_add]
  rw [List.drop_zero, Nat.add_zero, Nat.sub_zero, List.drop_take, e, List.length_take]
  rw [List.take_eq_take_iff]
  omega
theorem fitG_off {m off : Nat} : ∀ (gs : List G) (o : Nat), (∀ g ∈ gs, 1 ≤ g.size) → fitG (m - off) o gs = fitG m (off + o) gs
  | [], _, _ => rfl
  | g :: r, o, h => by
    have h1 := h g (.head _)
    unfold fitG
    rw [fitG_off r (o + g.size) fun x hx => h x (.tail _ hx)]
    by_cases q : off + o + g.size ≤ m
    · rw [if_pos q, if_pos (by omega), Nat.add_assoc]
    · rw [if_neg q, if_neg (by omega)]
theorem fitG_all {len : Nat} : ∀ (gs : List G) (o : Nat), o + sizes gs ≤ len → fitG len o gs = gs
  | [], _, _ => rfl
  | g :: r, o, h => by
    rw [sizes_cons] at h
    unfold fitG
    rw [if_pos (by omega), fitG_all r (o + g.size) (by omega)]
theorem G.Ok.pos {g : G} (h : g.Ok) : 1 ≤ g.size ∧ g.size ≤ 24 := by
  have : ∀ {kd size num : Nat} {val back : PV}, FG kd size num val back → 1 ≤ size ∧ size ≤ 24 := by
    intro kd size num val back hg
    cases hg <;> omega
  exact this h
-- part Q3
/-! formats put together -/
theorem specGo_app : ∀ (a b : List Fi) (e : Bool) (n : Nat), specGo e n (a ++ b) = specGo e n a ++ specGo (a.foldl endGo e) (a.foldl cntGo n) b
  | [], b, e, n => rfl
  | f :: r, b, e, n => by
    show _ :: specGo _ _ (r ++ b) = _
    rw [specGo_app r]; rfl
theorem cnt_cons (g : G) (r : List G) : cnt (g :: r) = (if g.kind ∈ [112, 80] then 0 else 1) + cnt r := by
  unfold cnt
  by_cases hk : g.kind ∈ [112, 80]
  · rw [if_pos hk, List.filter_cons_of_neg (fun h => (G.keep_iff.mp h) hk), Nat.zero_add]
  · rw [if_neg hk, List.filter_cons_of_pos (G.keep_iff.mpr hk), List.length_cons, Nat.add_comm]
theorem cnt_app (a b : List G) : cnt (a ++ b) = cnt a + cnt b := by unfold cnt; rw [List.filter_append, List.length_append]
theorem specOf_app : ∀ (a b : List G) (n : Nat), specOf n (a ++ b) = specOf n a ++ specOf (n + cnt a) b
  | [], b, n => rfl
  | g :: r, b, n => by
    show _ :: specOf _ (r ++ b) = _
    rw [specOf_app r, cnt_cons]
    show _ :: (specOf _ r ++ specOf _ b) = _ :: (specOf _ r ++ specOf _ b)
    congr 3
    split <;> omega
/-- a format under way -/
structure Part (fs : List Fi) (gs : List G) (order : Bool) : Prop where
  ok : ∀ f ∈ fs, f.Ok
  grp : ∀ g ∈ gs, g.Ok
  spec : ∀ e n, specGo e n fs = specOf n gs
  cn : ∀ n, fs.foldl cntGo n = n + cnt gs
  fin : fs ≠ [] → ∀ e, fs.foldl endGo e = order
  len : fs.length = gs.length
theorem Part.nil (order : Bool) : Part [] [] order := ⟨(fun _ h => nomatch h), (fun _ h => nomatch h), fun _ _ => rfl, fun _ => rfl, fun h => absurd rfl h, rfl⟩
theorem Part.snoc {fs : List Fi} {gs : List G} {o o' : Bool} (h : Part fs gs o) {f : Fi} {g : G} (hf : f.Ok) (hg : g.Ok) (hk : g.kind = f.kd) (hs : g.size = f.size) (hl : g.little = o') (ho : f.sg = some o' ∨ (f.sg = none ∧ fs ≠ [] ∧ o = o')) : Part (fs ++ [f]) (gs ++ [g]) o' := by
  have he : ∀ e, endGo (fs.foldl endGo e) f = o' := fun e => by
    unfold endGo
    rcases ho with h1 | ⟨h1, h2, h3⟩
    · rw [h1]; rfl
    · rw [h1]
      show fs.foldl endGo e = o'
      rw [h.fin h2, h3]
  refine ⟨fun x hx => ?_, fun x hx => ?_, fun e n => ?_, fun n => ?_, fun _ e => ?_, by rw [List.length_append, List.length_append, h.len]; rfl⟩
  · rcases List.mem_append.mp hx with q | q
    · exact h.ok x q
    · rw [List.mem_singleton.mp q]; exact hf
  · rcases List.mem_append.mp hx with q | q
    · exact h.grp x q
    · rw [List.mem_singleton.mp q]; exact hg
  · rw [specGo_snoc, specOf_app, h.spec, h.cn, he, ← hl, ← hk, ← hs]; rfl
  · rw [List.foldl_append, h.cn, cnt_app, cnt_cons]
    show cntGo (n + cnt gs) f = _
    unfold cntGo
    rw [hk]
    split <;> simp [cnt] <;> omega
  · rw [List.foldl_append]; exact he e
/-- pieces, one behind the other -/
structure Pcs (low : Bool) (l : List (List Fi × List G)) : Prop where
  part : ∀ p ∈ l, (∃ o, Part p.1 p.2 o) ∧ p.1 ≠ [] ∧ p.2.length ≤ 3 ∧ sizes p.2 ≤ 60 ∧ (fmtL p.1).length ≤ 20 ∧ (low = true → sizes p.2 % 8 = 0)
  few : l.length ≤ 4
noncomputable abbrev allF (l : List (List Fi × List G)) : List Fi := l.flatMap (·.1)
noncomputable abbrev allG (l : List (List Fi × List G)) : List G := l.flatMap (·.2)
theorem Pcs.sub {low : Bool} {l l' : List (List Fi × List G)} (h : Pcs low l) (hs : l'.Sublist l) : Pcs low l' := ⟨fun p hp => h.part p (hs.subset hp), Nat.le_trans hs.length_le h.few⟩
theorem Pcs.facts {low : Bool} : ∀ {l : List (List Fi × List G)}, (∀ p ∈ l, (∃ o, Part p.1 p.2 o) ∧ p.1 ≠ [] ∧ p.2.length ≤ 3 ∧ sizes p.2 ≤ 60 ∧ (fmtL p.1).length ≤ 20 ∧ (low = true → sizes p.2 % 8 = 0)) →
    (∀ f ∈ allF l, f.Ok) ∧ (∀ g ∈ allG l, g.Ok) ∧ (∀ e n, specGo e n (allF l) = specOf n (allG l)) ∧ (allG l).length ≤ 3 * l.length ∧ sizes (allG l) ≤ 60 * l.length ∧ (fmtL (allF l)).length ≤ 20 * l.length ∧ (low = true → sizes (allG l) % 8 = 0)
  | [], _ => ⟨(fun _ h => nomatch h), (fun _ h => nomatch h), fun _ _ => rfl, by decide, by decide, by decide, fun _ => rfl⟩
  | p :: l, h => by
    obtain ⟨⟨o, hp⟩, h2, h3, h4, h5, h6⟩ := h p (.head _)
    obtain ⟨i1, i2, i3, i4, i5, i6, i7⟩ := Pcs.facts (low := low) (l := l) fun x hx => h x (.tail _ hx)
    have e1 : allF (p :: l) = p.1 ++ allF l := List.flatMap_cons
    have e2 : allG (p :: l) = p.2 ++ allG l := List.flatMap_cons
    have e3 : fmtL (p.1 ++ allF l) = fmtL p.1 ++ fmtL (allF l) := by unfold fmtL; rw [List.flatMap_append]
    rw [e1, e2]
    refine ⟨fun f hf => (List.mem_append.mp hf).elim (hp.ok f) (i1 f), fun g hg => (List.mem_append.mp hg).elim (hp.grp g) (i2 g), fun e n => by rw [specGo_app, specOf_app, hp.spec, hp.cn, i3], ?_, ?_, ?_, fun hl => ?_⟩
    · rw [List.length_append, List.length_cons]; omega
    · rw [sizes_append, List.length_cons]; omega
    · rw [e3, List.length_append, List.length_cons]; omega
    · rw [sizes_append]; have := h6 hl; have := i7 hl; omega
theorem Pcs.fmt {low : Bool} {l : List (List Fi × List G)} (h : Pcs low l) (hne : l ≠ []) : FmtOk (allF l) (allG l) := by
  obtain ⟨i1, i2, i3, i4, i5, i6, i7⟩ := Pcs.facts h.part
  have := h.few
  refine ⟨i1, ?_, by omega, i3 _ _, i2, by omega, by omega⟩
  obtain ⟨p, r, rfl⟩ := List.exists_cons_of_ne_nil hne
  intro e
  have e1 : allF (p :: r) = p.1 ++ allF r := List.flatMap_cons
  rw [e1] at e
  exact (h.part p (.head _)).2.1 (List.append_eq_nil_iff.mp e).1
theorem Pcs.one {low : Bool} {l : List (List Fi × List G)} (h : Pcs low l) {p : List Fi × List G} (hp : p ∈ l) : FmtOk p.1 p.2 := by
  have := Pcs.fmt (h.sub (List.singleton_sublist.mpr hp)) (by simp)
  rw [show allF [p] = p.1 by simp, show allG [p] = p.2 by simp] at this
  exact this
theorem allG_at {l : List (List Fi × List G)} {i : Nat} {p : List Fi × List G} (h : l[i]? = some p) : allG l = allG (l.take i) ++ p.2 ++ allG (l.drop (i + 1)) := by
  have hi := List.getElem?_eq_some_iff.mp h
  obtain ⟨hlt, he⟩ := hi
  conv => lhs; rw [← List.take_append_drop i l, List.drop_eq_getElem_cons hlt, he]
  unfold allG
  rw [List.flatMap_append, List.flatMap_cons, List.append_assoc]
theorem allG_cut (l : List (List Fi × List G)) (i : Nat) : allG l = allG (l.take i) ++ allG (l.drop i) := by
  conv => lhs; rw [← List.take_append_drop i l]
  unfold allG
  rw [List.flatMap_append]
-- part Rz1
/-! the one raise of the program: Error_bitstruct -/
noncomputable abbrev cErr : Addr := 74
noncomputable abbrev bmErr : List Value := [.type "Exception", .type "BaseException", .type "object"]
noncomputable def errIn (K : Frag) : Bool := match K.lookup cErr with
  | some ⟨.type "type", _, .cls cd, sl⟩ => (match cd.mro, sl.toList with
    | .ref C' :: bm, [_, _, _, _, some (.builtin n), _] => C' == cErr && n == "Exception.__new__" && !cd.hasDel && bm == bmErr && nsOkIn K cd.ns && nsIn K cd.ns "__init__" == some none
    | _, _ => false)
  | _ => false
noncomputable def ErrCls (h : Heap) : Prop := ∃ N nm q bs hdct sn sub ab col dd k0 k1 k2 k3 k5 mN, h.get? cErr = some (excClassObj nm q cErr N bs bmErr hdct sn sub ab col dd k0 k1 k2 k3 k5 "Exception.__new__") ∧ h.Ns N mN ∧ mN "__init__" = none
theorem errCls {K : Frag} {h : Heap} (X : K.In h) (q : errIn K = true) : ErrCls h := by
  unfold errIn at q
  split at q
  · rename_i dd cd sl ho
    split at q
    · rename_i C' bm k0 k1 k2 k3 n k5 hm hs
      simp only [Bool.and_eq_true, beq_iff_eq, Bool.not_eq_true'] at q
      obtain ⟨⟨⟨⟨⟨rfl, rfl⟩, hdel⟩, rfl⟩, hok⟩, hni⟩ := q
      obtain ⟨nm, bs, mro, ns, qn, hd, sn, sub, ab, col, del⟩ := cd
      dsimp only at hm hdel hok hni
      subst hm hdel
      have hsl : sl = #[k0, k1, k2, k3, some (.builtin "Exception.__new__"), k5] := by
        obtain ⟨l⟩ := sl
        simp only at hs
        rw [hs]
      subst hsl
      exact ⟨ns, nm, qn, bs, hd, sn, sub, ab, col, dd, k0, k1, k2, k3, k5, _, X _ _ ho, .of_isNs (isNs_of_in X hok), nsMap_none_of_in X hok hni⟩
    · cases q
  · cases q
theorem ErrCls.keeps {h h' : Heap} (x : ErrCls h) (k : ∀ b o, h.get? b = some o → h'.get? b = some o) : ErrCls h' :=
  let ⟨N, nm, q, bs, hdct, sn, sub, ab, col, dd, k0, k1, k2, k3, k5, mN, hC, hN, hq⟩ := x
  ⟨N, nm, q, bs, hdct, sn, sub, ab, col, dd, k0, k1, k2, k3, k5, mN, k _ _ hC, hN.keeps k, hq⟩
theorem Base.err {w : World} {h : Heap} (b : Base w h) : ErrCls h := errCls b.kin (by kernel_rfl)

/-- an exception on its way, wherever it was last looked at -/
noncomputable def AnyW (base : Heap) (l : List Env) (e : Addr) (a0 : Value) (h : Heap) : Prop :=
  base.StaysIn h ∧ base.get? e = none ∧ h.FunFrames base l ∧ ∃ fr : Option Addr, h.TracedAtW base e (.ref cErr) a0 (fr.elim .none fun f => rawInt f)
theorem AnyW.of {base : Heap} {l : List Env} {e : Addr} {a0 : Value} {h : Heap} (x : Heap.FlyingW base l e (.ref cErr) a0 h) : AnyW base l e a0 h := ⟨x.1, x.2.1, x.2.2.1, none, x.2.2.2⟩
theorem AnyW.pop {base : Heap} {env : Env} {l : List Env} {e : Addr} {a0 : Value} {h : Heap} (x : AnyW base (env :: l) e a0 h) : AnyW base l e a0 h := ⟨x.1, x.2.1, x.2.2.1.2.2, x.2.2.2⟩
theorem AnyW.weak {base B : Heap} {l : List Env} {e : Addr} {a0 : Value} {h : Heap} (k : base.StaysIn B) (x : AnyW B l e a0 h) : AnyW base l e a0 h := by
  obtain ⟨f1, f2, f3, fr, oe, vs, T, oT, ts, a1, a2, a3, a4, a5, a6⟩ := x
  exact ⟨fun b o q => f1 b o (k b o q), fresh_of_stays k f2, funFrames_base k f3, fr, oe, vs, T, oT, ts, a1, a2, a3, a4, fresh_of_stays k a5, a6⟩
theorem AnyW.there {base : Heap} {l : List Env} {e : Addr} {a0 : Value} {h : Heap} (x : AnyW base l e a0 h) : ∃ ob, h.get? e = some ob ∧ ob.cls = .ref cErr := x.2.2.2.choose_spec.there

section
variable {M : Model} {A : Around} {E : Value → Shared → Prop} {s : Shared}
theorem setFlight_any {base : Heap} {l : List Env} {e : Addr} {a0 : Value} {fr : Option Addr} {Q : Unit → Shared → Prop} (x : AnyW base l e a0 s.heap)
    (h : ∀ h', AnyW base l e a0 h' → s.heap.UpToSlots h' → Q () { s with heap := h' }) : wpAny M A (setFlight (.ref e) fr) Q E s := by
  obtain ⟨hkb, hen, hl, fr0, oe, vs, T, oT, ts, he, hcls, hd, h1, hnT, hTe, hT, hdT, h3⟩ := x
  have hsz3 : 3 < ts.size := (Array.getElem?_eq_some_iff.mp h3).1
  have other : ∀ b, b ≠ T → (s.heap.update T (Obj.mapFields (·.setIfInBounds 3 (fr.elim Value.none fun f => rawInt f)))).get? b = s.heap.get? b :=
    fun b hb => Heap.get?_update_other _ _ (Ne.symm hb)
  have noRecord : ∀ b o, s.heap.get? b = some o → (∀ vs, o.data ≠ .fields vs) → b ≠ T := fun b o hb hnf q => by
    rw [q, hT] at hb; injection hb with hb; subst hb; exact hnf ts hdT
  unfold setFlight
  refine wpAny_bind (wpAny_field he hd h1 ?_)
  rw [if_pos (show (Value.ref T != Value.none) = true from by simp)]
  refine wpAny_setField hT hdT hsz3 (h _ ⟨fun b o hbo => (other b fun q => by rw [q, hnT] at hbo; cases hbo).trans (hkb b o hbo), hen,
    hl.of_keeps fun b o hb hnf => ⟨o, (other b (noRecord b o hb hnf)).trans hb, rfl⟩, fr, ?_⟩ fun b o hb hnf => ⟨o.slots, (other b (noRecord b o hb hnf)).trans hb⟩)
  exact ⟨oe, vs, T, _, _, (other e (Ne.symm hTe)).trans he, hcls, hd, h1, hnT, hTe, Heap.get?_update_self _ hT (Obj.isFreed_of_fields (Obj.data_mapFields hdT _)), Obj.data_mapFields hdT _, by simp [hsz3]⟩

theorem noteFrame_any {base : Heap} {env : Env} {outer : List Env} {L e : Addr} {a0 : Value} {Q : Unit → Shared → Prop}
    (hfr : A.frames = some (env :: outer)) (hf : env.frame = some L) (x : AnyW base (env :: outer) e a0 s.heap)
    (h : ∀ h', AnyW base (env :: outer) e a0 h' → s.heap.UpToSlots h' → Q () { s with heap := h' }) : wpAny M A (noteFrame (.ref e) env) Q E s := by
  obtain ⟨hkb, hen, hl, fr0, tr⟩ := id x
  by_cases q : fr0 = some L
  · subst q
    exact wpAny_noteFrame_againW hf tr (h s.heap x (Heap.UpToSlots.refl _))
  · obtain ⟨oe, vs, T, oT, ts, he, ⟨hcls, h0⟩, hd, h1, hnT, hTe, hT, hdT, h3⟩ := tr
    unfold noteFrame
    simp only [hf]
    refine wpAny_bind (wpAny_field he hd h1 ?_)
    rw [if_pos (show (Value.ref T != Value.none) = true from by simp)]
    refine wpAny_bind (wpAny_field hT hdT h3 ?_)
    rw [if_neg (show ¬ ((fr0.elim Value.none (fun f => rawInt f) == rawInt L) = true) from by
      intro hh
      have hh := eq_of_beq hh
      cases fr0 with
      | none => cases hh
      | some f =>
        have : (rawInt f : Value) = rawInt L := hh
        unfold rawInt at this
        injection this with this
        exact q (by congr 1; exact Int.ofNat.inj this))]
    refine wpAny_bind (wpAny_setField hT hdT (Array.getElem?_eq_some_iff.mp h3).1 ?_)
    have other : ∀ b, b ≠ T → (s.heap.update T (Obj.mapFields (·.setIfInBounds 3 Value.none))).get? b = s.heap.get? b := fun b hb => Heap.get?_update_other _ _ (Ne.symm hb)
    have noRecord : ∀ b o, s.heap.get? b = some o → (∀ vs, o.data ≠ .fields vs) → b ≠ T := fun b o hb hnf q => by
      rw [q, hT] at hb; injection hb with hb; subst hb; exact hnf ts hdT
    refine wpAny_entryW hfr (hl.of_keeps fun b o hb hnf => ⟨o, (other b (noRecord b o hb hnf)).trans hb, rfl⟩) hf ((other e (Ne.symm hTe)).trans he)
      (fun b o hbo => (other b fun q => by rw [q, hnT] at hbo; cases hbo).trans (hkb b o hbo)) hen hd (Array.getElem?_eq_some_iff.mp h1).1 h0
      fun h' ⟨x1, x2, x3, x4⟩ => h h' ⟨x1, hen, x2, some L, hcls ▸ x3⟩ fun b o hb hnf => x4 b o ((other b (noRecord b o hb hnf)).trans hb) hnf
theorem leaving_any {base : Heap} {env : Env} {outer : List Env} {L e : Addr} {a0 : Value} {Q : Unit → Shared → Prop}
    (hfr : A.frames = some (env :: outer)) (hf : env.frame = some L) (x : AnyW base (env :: outer) e a0 s.heap)
    (h : ∀ h', AnyW base outer e a0 h' → s.heap.UpToSlots h' → Q () { s with heap := h' }) : wpAny M A (leaving env (.ref e)) Q E s := by
  unfold leaving
  refine wpAny_bind (noteFrame_any hfr hf x fun h1 x1 u1 => ?_)
  exact setFlight_any x1 fun h2 x2 u2 => h h2 x2.pop (u1.trans u2)
theorem leaving_made {base h : Heap} {env : Env} {outer : List Env} {L e : Addr} {args : List Value} {Q : Unit → Shared → Prop}
    (hfr : A.frames = some (env :: outer)) (hf : env.frame = some L) (hkb : base.StaysIn h) (hl : h.FunFrames base (env :: outer)) (hx : Heap.MadeExcOf h s.heap e (.ref cErr) args)
    (hQ : ∀ h' a0, AnyW base outer e a0 h' → s.heap.UpToSlots h' → Q () { s with heap := h' }) : wpAny M A (leaving env (.ref e)) Q E s :=
  wpAny_leaves_madeW hfr hf hkb hl hx fun h' t x1 _ _ x4 => hQ h' _ (.of x1) x4
end

/-- the frames below are in the ledger -/
noncomputable def FsOk (fs : List Env) (gu : Led) : Prop := ∀ env ∈ fs, env.scope.kind ≠ .module ∧ ∃ p ∈ gu, env.frame = some p.1
noncomputable def NonF (gu : Led) : Prop := ∀ p ∈ gu, ∀ vs, p.2.data ≠ .fields vs
noncomputable def Slotted (gu : Led) (h : Heap) : Prop := ∀ p ∈ gu, ∃ sl, h.get? p.1 = some { p.2 with slots := sl }
theorem Slotted.of {gu : Led} {h : Heap} (x : ∀ p ∈ gu, h.get? p.1 = some p.2) : Slotted gu h := fun p hp => ⟨p.2.slots, x p hp⟩
theorem Slotted.up {gu : Led} {h h' : Heap} (x : Slotted gu h) (n : NonF gu) (u : h.UpToSlots h') : Slotted gu h' := fun p hp => by
  obtain ⟨sl, e⟩ := x p hp
  obtain ⟨sl', e'⟩ := u _ _ e (n p hp)
  exact ⟨sl', e'⟩
theorem funFrames_of {h base : Heap} {gu : Led} (s : Slotted gu h) (n : NonF gu) (hid : ∀ p ∈ gu, base.get? p.1 = none) : ∀ {fs : List Env}, FsOk fs gu → h.FunFrames base fs
  | [], _ => trivial
  | env :: fs, f => by
    obtain ⟨hk, p, hp, hf⟩ := f env (.head _)
    obtain ⟨sl, e⟩ := s p hp
    exact ⟨hk, ⟨p.1, _, hf, hid p hp, e, n p hp⟩, funFrames_of s n hid fun e he => f e (.tail _ he)⟩

noncomputable def RzPostK (ks : List Addr) (gu : Led) (fs : List Env) (s : Shared) (e : Value) (s' : Shared) : Prop :=
  ∃ a a0, e = .ref a ∧ AnyW (hideAll s.heap ks) fs a a0 s'.heap ∧ Slotted gu s'.heap ∧ GensOk s.gens s'.gens ∧ s'.os = s.os
noncomputable abbrev RzPost (gu : Led) (fs : List Env) (s : Shared) (e : Value) (s' : Shared) : Prop := RzPostK (keys gu) gu fs s e s'
/-- a call that raises -/
noncomputable def Rz (w : World) (n : Nat) (t : Sem Value) (pre : Heap → Prop) : Prop :=
  ∀ A s gu fs, Pre w n gu pre A s → A.frames = some fs → FsOk fs gu → NonF gu → wpAny (model prog w) A t (fun _ _ => False) (RzPost gu fs s) s

/-- as W, ends in a raise -/
structure WR {F : Fn} (C : Cx F) {α : Type} (t : Sem α) (V : Vals) (H : Led) (Φ : Value → Shared → Prop) : Prop where
  run : ∀ s, Vw C V H s → wpAny (model prog C.w) C.A t (fun _ _ => False) Φ s
noncomputable def Fly {F : Fn} (C : Cx F) (gu : Led) (fs : List Env) (e : Value) (s' : Shared) : Prop :=
  ∃ a a0, e = .ref a ∧ AnyW C.h₀ (C.env :: fs) a a0 s'.heap ∧ Slotted gu s'.heap ∧ GensOk C.g₀ s'.gens ∧ s'.os = C.os₀

section
variable {F : Fn} {C : Cx F} {V : Vals} {H : Led} {Φ : Value → Shared → Prop}
theorem wr_then {α β : Type} {m : Sem α} {f : α → Sem β} (h : W C NoE m V H (fun a V' H' => WR C (f a) V' H' Φ)) : WR C (m >>= f) V H Φ :=
  .mk fun s v => wpAny_bind (wpAny_mono (h.run s v) (fun _ s' ⟨_, _, v', q⟩ => q.run s' v') fun _ _ ⟨_, _, _, x⟩ => x.elim)
theorem wr_first {α β : Type} {m : Sem α} {f : α → Sem β} (h : WR C m V H Φ) : WR C (m >>= f) V H Φ :=
  .mk fun s v => wpAny_bind (wpAny_mono (h.run s v) (fun _ _ x => x.elim) fun _ _ x => x)
theorem wr_holding {α : Type} {vs : List Value} {t : Sem α} (h : WR C t V H Φ) : WR C (holding vs t) V H Φ := .mk fun s v => wpAny_holding (h.run s v)
theorem wr_keep {α : Type} {vs : List Value} {m : Sem α} (h : WR C m V H Φ) : WR C (m.keep vs) V H Φ := .mk fun s v => Calls.wpAny_keep (h.run s v)
theorem wr_drop {α : Type} {t : Sem α} {H' : Led} (hs : SubP H' H) (h : WR C t V H' Φ) : WR C t V H Φ := .mk fun s v => h.run s (v.subP hs)

/-- the failing call inside -/
theorem wr_call {m : Nat} {t : Sem Value} {R gu : Led} {fs : List Env} {pre : Heap → Prop} (ok : FnOk F) (hz : Rz C.w m t pre) (hm : m ≤ C.n) (hfr : C.env.frame = some C.L) (hA : C.A.frames = some (C.env :: fs)) (hfs : FsOk fs gu) (hnf : NonF gu)
    (hpre : ∀ h : Heap, (∀ a o, Has C R a o → h.get? a = some o) → pre h) : WR C t V (R ++ gu) (Fly C gu fs) := .mk fun s v => by
  obtain ⟨oL, es, ep, hLg, hLd, hLr⟩ := v.fr.ns
  have nd := v.nd
  rw [List.map_append, List.nodup_append] at nd
  have hLn : C.h₀.get? C.L = none := by
    cases e : C.h₀.get? C.L with
    | none => rfl
    | some o => exact absurd (Nat.lt_of_lt_of_le (Heap.lt_size e) v.fr.above) (Nat.lt_irrefl _)
  have hgn : ∀ p ∈ gu, C.h₀.get? p.1 = none := fun p hp => (v.nw p (List.mem_append_right R hp)).2.2
  have nb : ∀ a o, C.h₀.get? a = some o → a ∉ keys ((C.L, oL) :: gu) := fun a o e hm => by
    rcases List.mem_cons.mp hm with q | hm
    · have q' : a = C.L := q
      rw [q', hLn] at e; cases e
    · obtain ⟨p, hp, rfl⟩ := List.mem_map.mp hm
      rw [hgn p hp] at e; cases e
  have st : C.h₀.StaysIn (hideAll s.heap (keys ((C.L, oL) :: gu))) := fun a o e => hideAll_get _ (v.old e) (nb a o e)
  have nk : ∀ p ∈ R, p.1 ∉ keys ((C.L, oL) :: gu) := fun p hp hm => by
    rcases List.mem_cons.mp hm with q | hm
    · exact (v.nw p (List.mem_append_left gu hp)).2.1 q
    · exact nd.2.2 _ (List.mem_map_of_mem hp) _ hm rfl
  have hid : ∀ a o, Has C R a o → (hideAll s.heap (keys ((C.L, oL) :: gu))).get? a = some o := fun a o x => by
    rcases x with x | x
    · exact hideAll_get _ (v.at (List.mem_append_left gu x)) (nk _ x)
    · exact st a o x
  have pr : Pre C.w m ((C.L, oL) :: gu) pre C.A s := ⟨C.aok.le hm, C.base.keeps st, fun p hp => by
    rcases List.mem_cons.mp hp with rfl | hp
    · exact hLg
    · exact v.at (List.mem_append_right R hp), List.nodup_cons.mpr ⟨fun hm => by
      obtain ⟨p, hp, e⟩ := List.mem_map.mp hm
      exact (v.nw p (List.mem_append_right R hp)).2.1 e, nd.2.1⟩, hpre _ hid⟩
  have hfs' : FsOk (C.env :: fs) ((C.L, oL) :: gu) := fun e he => by
    rcases List.mem_cons.mp he with rfl | he
    · exact ⟨by rw [ok.env_fun C]; decide, _, .head _, hfr⟩
    · obtain ⟨a, p, hp, hf⟩ := hfs e he
      exact ⟨a, p, .tail _ hp, hf⟩
  have hnf' : NonF ((C.L, oL) :: gu) := fun p hp => by
    rcases List.mem_cons.mp hp with rfl | hp
    · intro vs q; rw [hLd] at q; cases q
    · exact hnf p hp
  refine wpAny_mono (hz C.A s _ _ pr hA hfs' hnf') (fun _ _ x => x) fun e s' ⟨a, a0, he, hA', hS, hG, hO⟩ => ?_
  exact ⟨a, a0, he, hA'.weak st, fun p hp => hS p (.tail _ hp), v.gens.trans hG, hO.trans v.os⟩
end

section
variable {F : Fn}
/-- a def that raises -/
theorem Rz.def {w : World} {n : Nat} {pre : Heap → Prop} {body : List Stmt} {args : List Value} {kw : List (Str × Value)} {vals : List Value} {V₀ : Vals}
    (hF : FnIs w F) (hbody : F.fd.body = .stmts body) (hgen : F.fd.scope.isGenerator = false)
    (hbind : ∀ s A gu, Pre w (n + 1) gu pre A s → BindsTo s F.fd ⟨args, kw⟩ ((F.names.take vals.length).zip vals)) (hl : vals.length ≤ F.names.length) (hV : vals.map some ++ List.replicate (F.names.length - vals.length) none = V₀)
    (h : ∀ (C : Cx F) gu fs, C.w = w → C.n = n → pre C.h₀ → C.A.frames = some (C.env :: fs) → C.env.frame = some C.L → FsOk fs gu → NonF gu → WR C (execs body C.env) V₀ gu (Fly C gu fs)) :
    Rz w (n + 1) (call (.ref F.addr) args kw) pre := fun A s gu fs p hfr hfs hnf => by
  refine wpAny_call ?_
  have nm : ∀ b o, (hideAll s.heap (keys gu)).get? b = some o → s.heap.get? b = some o := fun _ _ e => of_hideAll _ e
  have B := p.base.keeps nm
  refine codeAny_call_def (fd := F.fd) (body := body) (binds := (F.names.take vals.length).zip vals) (by have := p.aok.dep; show A.depth < 1000; omega) (B.kin _ _ hF.at_) rfl B.lim (codeRec_of B.kin hF.cd) hbody (hbind s A gu p)
    (fun x hx e => by have := List.all_eq_true.mp hF.cell x hx; rw [e] at this; cases this) (fun x hx => hF.ok.loc _ (List.mem_of_mem_take (List.of_mem_zip (a := x.1) (b := x.2) hx).1)) (fun h₁ hns hk => ?_) hF.co hgen hF.ok.kind
  have en : (Cx.enter F p).env = callEnv F.fd s.heap.objs.size F.addr := congrFun (congrFun hF.mk_ _) _
  have hfr' : (A.deeper (callEnv F.fd s.heap.objs.size F.addr)).frames = some (callEnv F.fd s.heap.objs.size F.addr :: fs) := by show A.frames.map _ = _; rw [hfr]; rfl
  have key := (h (Cx.enter F p) gu fs rfl rfl p.pre (by rw [en]; exact hfr') (by rw [en]; rfl) hfs hnf).run { s with heap := h₁, toks := s.toks + ((F.names.take vals.length).zip vals).length } (by
    refine ⟨⟨?_, fun b o e => hk b o (nm b o e), Nat.le_of_eq (hideAll_size _ _)⟩, fun q hq => ⟨hk _ _ (p.led q hq), Nat.ne_of_lt (Heap.lt_size (p.led q hq)), hideAll_none _ (List.mem_map_of_mem hq)⟩, p.nd, .refl _, rfl⟩
    have e : (fun x => ((F.names.take vals.length).zip vals).reverse.lookup x) = slot F.names V₀ := funext fun x => by rw [revlook hF.ok.nd hl, hV]
    rw [e] at hns
    exact hns)
  rw [en] at key
  refine wpAny_mono key (fun _ _ x => x.elim) fun e s' ⟨a, a0, he, hA', hS, hG, hO⟩ => ?_
  subst he
  rw [en] at hA'
  refine leaving_any hfr' rfl hA' fun h' x u => ?_
  exact ⟨a, a0, rfl, x, hS.up hnf u, hG, hO⟩
end
-- part Rz2
section
variable {F : Fn} {C : Cx F} {V : Vals} {H : Led} {Φ : Value → Shared → Prop}
theorem wr_cons {st : Stmt} {rest : List Stmt} (h : WR C (exec st C.env) V H Φ) : WR C (execs (st :: rest) C.env) V H Φ := by
  rw [execs_cons]; exact wr_first h
theorem wr_Return {e : Expr} {pos : Pos} (h : WR C (eval e C.env) V H Φ) : WR C (exec (.Return (some e) pos) C.env) V H Φ := by
  rw [exec_Return_some C.env e pos]
  exact wr_then (w_standAt (wr_first h))
theorem wr_Assign1 {t value : Expr} {pos : Pos} (hs : swapsWithSole [t] value pos.line C.env = Pure.pure false)
    (hw : swappedStores [t] value C.env = Pure.pure none) (h : WR C (eval value C.env) V H Φ) : WR C (exec (.Assign [t] value pos) C.env) V H Φ := by
  show WR C (do
    standAt pos
    if ← swapsWithSole [t] value pos.line C.env then do
      evalThenUse value C.env fun v => assignAll v ((assignEach [t] C.env).map (·.2))
      Pure.pure .next
    else do
      let v ← eval value C.env
      assignStores C.env v (← swappedStores [t] value C.env) ((assignEach [t] C.env).map (·.2))) V H Φ
  rw [hs, hw]
  refine wr_then (w_standAt (wr_then (w_pure ?_)))
  show WR C (do let v ← eval value C.env; _) V H Φ
  exact wr_first h
theorem wr_Call {func : Expr} {args : List Expr} {kws : List Keyword} {pos : Pos}
    (h : W C NoE (eval func C.env) V H (fun f V1 H1 => WR C (callWith pos f [] (backTo pos (starEach args C.env)) (backToKw pos (keywordEach kws C.env))) V1 H1 Φ))
    (he : eval (.Call func args kws pos) C.env = (do callWith pos (← eval func C.env) [] (backTo pos (starEach args C.env)) (backToKw pos (keywordEach kws C.env))) := by kernel_rfl) :
    WR C (eval (.Call func args kws pos) C.env) V H Φ := by rw [he]; exact wr_then h
theorem wr_MethodCall {o : Expr} {name : Str} {apos pos : Pos} {args : List Expr} {kws : List Keyword}
    (h : W C NoE (eval o C.env) V H (fun ov V1 H1 => W C NoE (getMethod ov name (do return (← importBound o C.env).getD true)) V1 H1 (fun fx V2 H2 => WR C (callWith pos fx.1 fx.2 (backTo pos (starEach args C.env)) (backToKw pos (keywordEach kws C.env))) V2 H2 Φ)))
    (he : eval (.Call (.Attribute o name apos) args kws pos) C.env = (do
      let ov ← eval o C.env
      standAt apos.atName
      let (f, first) ← holding [ov] (getMethod ov name (do return (← importBound o C.env).getD true))
      callWith pos f first (backTo pos (starEach args C.env)) (backToKw pos (keywordEach kws C.env))) := by kernel_rfl) :
    WR C (eval (.Call (.Attribute o name apos) args kws pos) C.env) V H Φ := by
  rw [he]
  exact wr_then (h.mono fun _ _ _ q => wr_then (w_standAt (wr_then (w_holding (q.mono fun fx V2 H2 q => q)))))
theorem wr_callWith_of {pos : Pos} {f : Value} {first : List Value} {args : List (Bool × Sem Value)} {keywords : List (Option Str × Sem Value)} (hplain : (args.any (·.1) || keywords.any (·.1.isNone)) = false)
    (h : W C NoE (evalArgs f true args keywords) V H (fun a V1 H1 => Kept C H1 f ∧ WR C (call f (first ++ a.pos) a.kw) V1 H1 Φ)) : WR C (callWith pos f first args keywords) V H Φ := by
  unfold callWith
  refine wr_then (w_holding (h.mono fun a V1 H1 q => wr_then (w_standAt ?_)))
  refine .mk fun s v => ?_
  obtain ⟨k, hk', L⟩ := q.1 V1 s v
  simp only [hplain]
  refine wpAny_bind (L.here ?_)
  have tail : ∀ {t : Sem Value}, WR C t V1 H1 Φ → wpAny (model prog C.w) C.A (t >>= fun r => PySem.holding [r] point >>= fun _ => Pure.pure r) (fun _ _ => False) Φ s :=
    fun ht => wpAny_bind (wpAny_mono (ht.run s v) (fun r s1 q => q.elim) fun _ _ x => x)
  have marked (mk : Value) : WR C (callMarked mk f (first ++ a.pos) a.kw) V1 H1 Φ := by unfold callMarked; exact wr_keep q.2
  rcases hk' with rfl | rfl | rfl <;> dsimp only <;> first | exact tail q.2 | (split <;> first | exact tail q.2 | exact tail (marked _))
theorem wr_cwK {pos : Pos} {f : Value} {first : List Value} {e kx : Expr} {kp : Pos} {rest : List Expr} {name : Str}
    (h : W C NoE (spliced (backTo pos (starEach (e :: rest) C.env))) V H (fun vs V1 H1 => W C NoE (eval kx C.env) V1 H1 (fun kv V2 H2 => Kept C H2 f ∧ WR C (call f (first ++ vs) [(name, kv)]) V2 H2 Φ)))
    (he : starEach (e :: rest) C.env = (false, eval e C.env) :: starEach rest C.env := by kernel_rfl) (hplain : (backTo pos (starEach rest C.env)).any (·.1) = false := by kernel_rfl) :
    WR C (callWith pos f first (backTo pos (starEach (e :: rest) C.env)) (backToKw pos (keywordEach [⟨some name, kx, kp⟩] C.env))) V H Φ := by
  rw [he] at h ⊢
  have ek : keywordEach [⟨some name, kx, kp⟩] C.env = [(some name, eval kx C.env)] := rfl
  rw [ek]
  refine wr_callWith_of (by show ((false || (backTo pos (starEach rest C.env)).any (·.1)) || false) = false; rw [hplain]; rfl) (w_evalArgsK (h.mono fun vs V1 H1 q => w_bind (q.mono fun kv V2 H2 q2 => w_bind (w_standAt (w_pure q2)))))
theorem wr_cw {pos : Pos} {f : Value} {first : List Value} {e : Expr} {rest : List Expr}
    (h : W C NoE (spliced (backTo pos (starEach (e :: rest) C.env))) V H (fun vs V1 H1 => Kept C H1 f ∧ WR C (call f (first ++ vs)) V1 H1 Φ))
    (he : starEach (e :: rest) C.env = (false, eval e C.env) :: starEach rest C.env := by kernel_rfl) (hplain : (backTo pos (starEach rest C.env)).any (·.1) = false := by kernel_rfl) :
    WR C (callWith pos f first (backTo pos (starEach (e :: rest) C.env)) (backToKw pos (keywordEach [] C.env))) V H Φ := by
  rw [he] at h ⊢
  exact wr_callWith_of (by show ((false || (backTo pos (starEach rest C.env)).any (·.1)) || false) = false; rw [hplain]; rfl) (w_evalArgs h)
/-- the one argument raises -/
theorem wr_cwArg {pos : Pos} {f : Value} {first : List Value} {e : Expr} (h : WR C (eval e C.env) V H Φ)
    (he : starEach [e] C.env = (false, eval e C.env) :: starEach [] C.env := by kernel_rfl) :
    WR C (callWith pos f first (backTo pos (starEach [e] C.env)) (backToKw pos (keywordEach [] C.env))) V H Φ := by
  rw [he]
  unfold callWith
  refine wr_first (wr_holding ?_)
  unfold evalArgs
  show WR C (spliced ((false, eval e C.env) :: _) >>= _) V H Φ
  refine wr_first ?_
  rw [spliced]
  exact wr_first h
end
/-! the generator raises at its first step -/
section
variable {w : World} {A : Around} {s : Shared}
theorem isStop_no {M : Model} {A : Around} {s : Shared} {e : Addr} {oe : Obj} {Q : Bool → Shared → Prop} {E : Value → Shared → Prop} (hC : ErrCls s.heap) (he : s.heap.get? e = some oe) (hcls : oe.cls = .ref cErr) (hQ : Q false s) :
    wpAny M A (isInstance (.ref e) (.type "StopIteration")) Q E s := by
  obtain ⟨N, nm, q, bs, hdct, sn, sub, ab, col, dd, k0, k1, k2, k3, k5, mN, hC, hN, hq⟩ := hC
  obtain ⟨h, g, d, t, os⟩ := s
  have hcB : (Value.ref cErr :: bmErr).contains (.type "StopIteration") = false := by decide +kernel
  unfold isInstance
  repeat (first | (with_reducible refine wpAny_loadPart_at he ?_; rw [hcls]) | (with_reducible refine wpAny_isSubtype_exc hC ?_; rw [hcB]) | wp_step)
  exact hQ
theorem pyNext_genR {a : Addr} {g : Nat} {gs : GenState} {ks : List Addr} {gu : Led} {fs : List Env} {Q : Option Value → Shared → Prop} {E : Value → Shared → Prop} (hh : A.handled = none)
    (hl : s.heap.NoLimit) (hroom : A.depth < recursionLimit)
    (hg : s.heap.IsGen a g) (hgs : s.gens[g]? = some gs) (hC : ErrCls (hideAll s.heap ks)) (ha : a ∉ ks)
    (hgo : gs.Goes (model prog w) A.in1 (fun n s₀ r s₁ => ∃ e, r = .error e ∧ RzPostK ks gu fs s₀ e s₁) (fun _ _ _ _ _ => False) 0 (.send .none) (s.setGen g .running))
    (hP : ∀ e s₁, RzPostK ks gu fs (s.setGen g .running) e s₁ → E e (s₁.setGen g .finished)) :
    wpAny (model prog w) A (pyNext (.ref a)) Q E s := by
  unfold pyNext
  refine wpAny_bind (wpAny_attempt (wpAny_callSpecial?_slot (name := Str.ofString "__next__") hg.typeIs slot_gen_next
    (wpAny_call_entry slot_gen_next hg.typeIs entry_gen_next ?_ (args_gen_next _))))
  show wpAny _ A.in1 (Builtin.Generator.genWake (.ref a) (.send .none)) _ _ s
  unfold Builtin.Generator.genWake
  refine wpAny_bind (wpAny_holding (wpAny_genNumber hg (wpAny_bind (wpAny_genState hgs ?_))))
  cases gs with
  | running => exact hgo.elim
  | finished => exact hgo.elim
  | _ =>
    refine wpAny_bind (wpAny_roomToWake hl hroom ?_)
    show wpAny _ A.in1 (.resume g (.send .none) [] _) _ _ s
    refine wpAny_resumeQ hgs hgo (fun x s₁ hx => ?_) (fun v s₁ gs' hb hv => hv.elim)
    obtain ⟨e, rfl, hp⟩ := hx
    obtain ⟨ea, a0, rfl, hA, hS, hG, hO⟩ := id hp
    obtain ⟨ob, hob, hobc⟩ := hA.there
    have hC1 : ErrCls (s₁.setGen g .finished).heap := hC.keeps hA.1
    obtain ⟨o, nm, qn, ho, hc, hd, hsl⟩ := hg
    have ho1 : (s₁.setGen g .finished).heap.get? a = some o := hA.1 _ _ (hideAll_get _ ho ha)
    show wpAny _ A.in1 (Builtin.Generator.genLeft (.ref a) (.ref ea)) _ _ _
    unfold Builtin.Generator.genLeft Builtin.Generator.madeByALambda
    refine wpAny_bind (wpAny_bind (wpAny_load ho1 ?_))
    rw [hd]
    refine wpAny_pure ?_
    refine wpAny_bind (isStop_no hC1 hob hobc ?_)
    rw [Bool.and_false]
    simp only [Bool.false_eq_true, if_false]
    unfold Builtin.Generator.genEscaped
    refine wpAny_bind (isStop_no hC1 hob hobc ?_)
    simp only [Bool.not_false, if_true]
    refine wpAny_throw ?_
    refine wpAny_bind (isStop_no hC1 hob hobc ?_)
    simp only [Bool.false_eq_true, if_false]
    exact wpAny_throw (hP _ _ hp)
end
-- part Rz3
theorem noteFrame_congr {e : Value} {a b : Env} (h : a.frame = b.frame) : noteFrame e a = noteFrame e b := by
  unfold noteFrame PySem.frameOf
  rw [h]
theorem AnyW.sameBut {base h h' : Heap} {l : List Env} {e Lc : Addr} {a0 : Value} (x : AnyW base l e a0 h) (hs : Heap.SameBut Lc h h') (hb : base.get? Lc = none) {m : Str → Option Value} (hn : h.Ns Lc m) (hf : ∀ env ∈ l, env.frame ≠ some Lc) : AnyW base l e a0 h' := by
  obtain ⟨f1, f2, f3, fr, oe, vs, T, oT, ts, a1, a2, a3, a4, a5, a6, a7, a8, a9⟩ := x
  obtain ⟨oL, es, ep, hL, hd, _⟩ := hn
  have he : e ≠ Lc := fun q => by rw [q, hL] at a1; injection a1 with a1; subst a1; rw [hd] at a3; cases a3
  have hT : T ≠ Lc := fun q => by rw [q, hL] at a7; injection a7 with a7; subst a7; rw [hd] at a8; cases a8
  refine ⟨fun b o q => (hs.2 b fun z => by rw [z, hb] at q; cases q).trans (f1 b o q), f2, ?_, fr, oe, vs, T, oT, ts, (hs.2 _ he).trans a1, a2, a3, a4, a5, a6, (hs.2 _ hT).trans a7, a8, a9⟩
  clear a1 a2 a3 a4 a5 a6 a7 a8 a9
  induction l with
  | nil => trivial
  | cons env l ih =>
    obtain ⟨b1, ⟨L, o, b2, b3, b4, b5⟩, b6⟩ := f3
    exact ⟨b1, ⟨L, o, b2, b3, (hs.2 _ fun q => hf env (.head _) (by rw [b2, q])).trans b4, b5⟩, ih (fun e he => hf e (.tail _ he)) b6⟩

section
variable {Fx : Fn} {C : Cx Fx} {V : Vals} {H : Led}
set_option maxHeartbeats 1000000 in
/-- a comprehension over a fresh generator that raises at its first step -/
theorem wr_LCgen {F' : Fn} (ok' : FnOk F') (okC : FnOk Fx) {elt target iter : Expr} {sc : Scope} {cl : List (Str × Addr)} {pos : Pos} {gu : Led} {fs : List Env}
    (hmk : ∀ L, F'.mkE L C.L = { newEnv sc L C.env.globals cl C.env.qual none .none (some C.env) builtinsNs with scope := relabel sc C.env }) (hsc : sc.kind = .function)
    (hcell : (sc.names.all fun x => x.2 != .cell) = true) (hnames : (sc.names.all fun x => x.2 != .local || sc.names.lookup x.1 == some .local) = true) (hclos : closureFor sc C.env = pure cl)
    (hfr : C.env.frame = some C.L) (hA : C.A.frames = some (C.env :: fs)) (hfs : FsOk fs gu) (hnf : NonF gu)
    {Fg : Fn} {V₀ : Vals} {body : List Stmt}
    (h : WS C (eval iter C.env) V H (fun x s1 => ∃ s V1 R a g L, x = .ref a ∧ Vw C V1 (R ++ gu) s ∧ FreshGen Fg V₀ body s s1 a g L ∧
      (∀ oL (s2 : Shared), s.heap.get? C.L = some oL → (∀ p ∈ R ++ gu, s.heap.get? p.1 = some p.2) → (∀ b o, s.heap.get? b = some o → s2.heap.get? b = some o) → s2.heap.Ns L (slot Fg.names V₀) → s2.os = s.os → s.heap.objs.size ≤ L →
        (GenState.fresh (.func body (callEnv Fg.fd L Fg.addr))).Goes (model prog C.w) C.A.in1 (fun n s₀ r s₁ => ∃ e, r = .error e ∧ RzPostK (L :: keys ((C.L, oL) :: gu)) ((C.L, oL) :: gu) (C.env :: fs) s₀ e s₁) (fun _ _ _ _ _ => False) 0 (.send .none) s2)))
    (hfold : ∀ x, foldedSetIterable iter C.env x = Pure.pure x := by intro _; kernel_rfl) (ht : ∀ it v, letOwnedTupleGo target it v = Pure.pure () := by intro _ _; rfl) :
    WR C (eval (.ListComp elt [⟨target, iter, [], 0⟩] sc pos) C.env) V H (Fly C gu fs) := .mk fun s00 v00 => by
  have hc : ∀ x ∈ sc.names, x.2 ≠ .cell := fun x hx e => by have := List.all_eq_true.mp hcell x hx; rw [e] at this; simp at this
  have hn : ∀ x ∈ sc.names, x.2 = .local → sc.names.lookup x.1 = some .local := fun x hx e => by
    have := List.all_eq_true.mp hnames x hx
    rw [e] at this
    simpa using this
  rw [eval_ListComp]
  refine wpAny_comprehension_free (use := none) rfl hfold hclos hsc hn (wpAny_mono (h.run s00 v00) (fun x s1 ⟨s, V1, R, a, g, L, hx, v, fg, goes⟩ => ?_) fun _ _ x => x.elim)
  subst hx
  refine wpAny_pyIter_gen fg.gen ?_
  refine wpAny_newObj_type ?_ (by show (#[] : Array Value).size ≤ sizeLine; exact Nat.zero_le _)
  refine wpAny_newFunctionEnv hc (fun _ hx => nomatch hx) (fun h4 hns hsb => ?_) hsc
  obtain ⟨D, hD⟩ : ∃ D : Nat, D = s1.heap.objs.size := ⟨_, rfl⟩
  obtain ⟨Lc, hLc⟩ : ∃ Lc : Nat, Lc = (s1.heap.push (listO [] 0)).objs.size := ⟨_, rfl⟩
  have hLc' : Lc = D + 1 := by rw [hLc, Heap.size_push, hD]
  rw [← hLc] at hns hsb
  have g1 : ∀ b o, s1.heap.get? b = some o → h4.get? b = some o := fun b o e => by
    have hb : @LT.lt Nat instLTNat b D := by rw [hD]; exact Heap.lt_size e
    have : h4.get? b = _ := hsb.2 b (by show @Ne Nat b Lc; omega)
    rw [this]
    exact Heap.get?_push_of_some _ (Heap.get?_push_of_some _ e)
  have none_s : ∀ k : Nat, s.heap.objs.size ≤ k → s.heap.get? k = none := fun k hk => by
    cases e : s.heap.get? k with
    | none => rfl
    | some o => exact absurd (Nat.lt_of_lt_of_le (Heap.lt_size e) hk) (Nat.lt_irrefl _)
  have hLlt : @LT.lt Nat instLTNat L D := by rw [hD]; exact fg.ns.lt
  have hnL : @LE.le Nat instLENat s.heap.objs.size L := fg.newL
  have nLc : s.heap.get? Lc = none := none_s _ (by omega)
  obtain ⟨oL, es, ep, hLg, hLd, hLr⟩ := v.fr.ns
  have nd := v.nd
  rw [List.map_append, List.nodup_append] at nd
  have hLn : C.h₀.get? C.L = none := by
    cases e : C.h₀.get? C.L with
    | none => rfl
    | some o => exact absurd (Nat.lt_of_lt_of_le (Heap.lt_size e) v.fr.above) (Nat.lt_irrefl _)
  have hgn : ∀ p ∈ gu, C.h₀.get? p.1 = none := fun p hp => (v.nw p (List.mem_append_right R hp)).2.2
  have hold : ∀ k ∈ keys ((C.L, oL) :: gu), ∃ o, s.heap.get? k = some o := fun k hk => by
    rcases List.mem_cons.mp hk with q | hk
    · rw [q]; exact ⟨oL, hLg⟩
    · obtain ⟨p, hp, rfl⟩ := List.mem_map.mp hk
      exact ⟨_, v.at (List.mem_append_right R hp)⟩
  have nb : ∀ a o, C.h₀.get? a = some o → a ∉ keys ((C.L, oL) :: gu) := fun a o e hm => by
    rcases List.mem_cons.mp hm with q | hm
    · have q' : a = C.L := q
      rw [q', hLn] at e; cases e
    · obtain ⟨p, hp, rfl⟩ := List.mem_map.mp hm
      rw [hgn p hp] at e; cases e
  have k4 : ∀ b o, s.heap.get? b = some o → h4.get? b = some o := fun b o e => g1 b o (fg.keep b o e)
  have nL : s.heap.get? L = none := none_s _ hnL
  have hnsL : h4.Ns L (slot Fg.names V₀) := by
    obtain ⟨o, es, ep, e, r⟩ := fg.ns
    exact ⟨o, es, ep, g1 _ _ e, r⟩
  have st : C.h₀.StaysIn (hideAll h4 ((L :: keys ((C.L, oL) :: gu)))) := fun a o e => hideAll_get _ (k4 _ _ (v.old e)) fun hm => by
    rcases List.mem_cons.mp hm with q | hm
    · have q' : a = L := q
      have := v.old e
      rw [q', nL] at this; cases this
    · exact nb a o e hm
  have haK : a ∉ (L :: keys ((C.L, oL) :: gu)) := fun hm => by
    rcases List.mem_cons.mp hm with q | hm
    · exact fg.ne q
    · obtain ⟨o, e⟩ := hold a hm
      rw [fg.newA] at e; cases e
  have hLcK : Lc ∉ (L :: keys ((C.L, oL) :: gu)) := fun hm => by
    rcases List.mem_cons.mp hm with q | hm
    · have q' : @Eq Nat Lc L := q
      omega
    · obtain ⟨o, e⟩ := hold Lc hm
      rw [nLc] at e; cases e
  have hLcF : ∀ env ∈ C.env :: fs, env.frame ≠ some Lc := fun env he q => by
    rcases List.mem_cons.mp he with rfl | he
    · rw [hfr] at q; exact hLcK (by rw [← Option.some.inj q]; exact .tail _ (.head _))
    · obtain ⟨_, p, hp, e⟩ := hfs env he
      rw [e] at q
      exact hLcK (by rw [← Option.some.inj q]; exact .tail _ (.tail _ (List.mem_map_of_mem hp)))
  have hLc0 : C.h₀.get? Lc = none := by
    cases e : C.h₀.get? Lc with
    | none => rfl
    | some o => have := v.old e; rw [nLc] at this; cases this
  let C' : Cx F' := { w := C.w, A := C.A, L := Lc, h₀ := s.heap, g₀ := s1.gens, os₀ := s.os, n := C.n, aok := C.aok, base := v.base, out := C.L }
  have en : C'.env = { newEnv sc Lc C.env.globals cl C.env.qual none .none (some C.env) builtinsNs with scope := relabel sc C.env } := hmk _
  have hbody : codeAny (model prog C.w) C.A (.compLoop (.ListComp elt [⟨target, iter, [], 0⟩] sc pos) 0 (.ref a) (.ref D) C'.env)
      (compPost (model prog C.w) C.A (Fly C gu fs) none (fun _ _ => False) (.ref D) Lc) { s1 with heap := h4 } := by
    refine PySem.codeAny_compLoop_tests (fun n st => st = { s1 with heap := h4 }) ?_ 0 rfl (ht _)
    rintro n _ rfl
    refine pyNext_genR (ks := L :: keys ((C.L, oL) :: gu)) (gu := (C.L, oL) :: gu) (fs := C.env :: fs) C.aok.hnd (v.base.lim.keeps k4) (by have := C.aok.dep; show C.A.depth < 1000; omega) (fg.gen.keeps g1) fg.gs ((C.base.keeps st).err) haK
      (goes oL _ hLg (fun p hp => v.at hp) k4 hnsL fg.os fg.newL) ?_
    rintro e s5 ⟨ea, a0, rfl, hAW, hSl, hG, hO⟩
    show wpAny (model prog C.w) C.A (noteFrame (.ref ea) C'.env) _ _ _
    rw [noteFrame_congr (a := C'.env) (b := C.env) (by rw [en]; rfl)]
    have hns5 : s5.heap.Ns Lc (fun x => ([] : List (Str × Value)).reverse.lookup x) := by
      obtain ⟨o, es, ep, e, r⟩ := hns
      exact ⟨o, es, ep, hAW.1 _ _ (hideAll_get _ e hLcK), r⟩
    have hAW' : AnyW C.h₀ (C.env :: fs) ea a0 s5.heap := hAW.weak st
    refine noteFrame_any hA hfr (s := s5.setGen g .finished) hAW' fun h6 x6 u6 => ?_
    refine ⟨_, u6.ns hns5, fun h7 hs7 cenv hcl => ?_⟩
    have x7 := x6.sameBut hs7 hLc0 (u6.ns hns5) hLcF
    have sl6 : Slotted gu h6 := (show Slotted gu s5.heap from fun p hp => hSl p (.tail _ hp)).up hnf u6
    have sl7 : Slotted gu h7 := fun p hp => by
      obtain ⟨sl, e⟩ := sl6 p hp
      exact ⟨sl, (hs7.2 _ fun q => hLcK (by rw [← q]; exact .tail _ (.tail _ (List.mem_map_of_mem hp)))).trans e⟩
    obtain ⟨_, _, _, fr, oe, vs, T, oT, ts, a1, a2, a3, a4, _⟩ := id x7
    unfold PySem.passOn
    refine wpAny_bind (wpAny_field a1 a3 a4 ?_)
    rw [if_neg (show ¬ ((Value.ref T == Value.none) = true) from by simp)]
    have fin : ∀ h8, AnyW C.h₀ (C.env :: fs) ea a0 h8 → Heap.UpToSlots h7 h8 → Fly C gu fs (.ref ea) { (s5.setGen g .finished) with heap := h8 } := fun h8 x8 u8 =>
      ⟨ea, a0, rfl, x8, sl7.up hnf u8, v.gens.trans ((((fg.gens.set fg.gn rfl).trans hG)).set fg.gn rfl), hO.trans (fg.os.trans v.os)⟩
    first
      | exact wpAny_bind (wpAny_pure (wpAny_bind (setFlight_any x7 fun h8 x8 u8 => wpAny_throw (fin h8 x8 u8))))
      | exact wpAny_bind (setFlight_any x7 fun h8 x8 u8 => wpAny_throw (fin h8 x8 u8))
  rw [en, hD, hLc] at hbody
  refine PySem.codeAny_compStart_list hbody ?_
  exact wpAny_pyIter_gen (fg.gen.keeps g1) hbody
end
-- part Rz4
section
variable {Fx : Fn} {C : Cx Fx} {E : Value → Vals → Led → Prop} {V : Vals} {H : Led} {Q : Value → Vals → Led → Prop}
noncomputable abbrev errMsg : Str := Str.ofString "unpack requires at least {} bits to unpack (got {})"
set_option maxHeartbeats 4000000 in
theorem wp_fmtErr {prog : Program} {w : World} {A : Around} {E : Value → Shared → Prop} {s : Shared} {Q : Value → Shared → Prop} {a b : Int} {t u v : Tok} (ha0 : 0 ≤ a) (ha : a ≤ 1000000) (hb0 : 0 ≤ b) (hb : b ≤ 1000000)
    (h : ∀ (T : Str) t' k, Q (.str T t') { s with toks := k }) : wpAny (model prog w) A (call (.builtin "str.format") [.str errMsg t, .int a u, .int b v]) Q E s := by
  (with_reducible show wpAny _ _ (call (Value.builtin "str.format") (Value.str _ _ :: _)) _ _ _)
  refine' KFm.call_k ?kfmF ?kfmg ?kfmm ?_
  case kfmF => kfm_eq
  case kfmg => exact KFm.args_3 _ _ _
  case kfmm => k_dflt kfm_run
  intro t' k
  exact h _ t' k
theorem w_fmtErr {a b : Int} {t u v : Tok} (ha0 : 0 ≤ a) (ha : a ≤ 1000000) (hb0 : 0 ≤ b) (hb : b ≤ 1000000) (h : ∀ (T : Str) t', Q (.str T t') V H) : W C E (call (.builtin "str.format") [.str errMsg t, .int a u, .int b v]) V H Q := .mk fun s vw =>
  wp_fmtErr ha0 ha hb0 hb fun T t' k => ⟨V, H, vw.toks _, h T t'⟩
theorem w_format_m {x : Str} {t : Tok} {pl : Sem Bool} {Q : Value × List Value → Vals → Led → Prop} (h : Q (.builtin "str.format", [.str x t]) V H) : W C E (getMethod (.str x t) "format" pl) V H Q := .mk fun s vw => KFm.method ⟨V, H, vw, h⟩
theorem wr_Raise {x : Str} {np cpos pos : Pos} {args : List Expr} {Φ : Value → Shared → Prop} (hplain : (backTo cpos (starEach args C.env)).any (·.1) = false)
    (h : W C NoE (eval (.Name x np) C.env) V H (fun f V1 H1 => f = .ref cErr ∧ W C NoE (evalArgs (.ref cErr) true (backTo cpos (starEach args C.env)) []) V1 H1 (fun a V2 H2 => a.kw = [] ∧ a.pos.length ≤ 1000 ∧
      ∀ s, Vw C V2 H2 s → ∀ h' e, Heap.MadeExcOf s.heap h' e (.ref cErr) a.pos → Φ (.ref e) { s with heap := h' }))) :
    WR C (exec (.Raise (some (.Call (.Name x np) args [] cpos)) none pos) C.env) V H Φ := .mk fun s v => by
  obtain ⟨N, nm, q, bs, hdct, sn, sub, ab, col, dd, k0, k1, k2, k3, k5, mN, hC, hN, hq⟩ := C.base.err
  refine wpAny_Raise_call_sub (nm := nm) (q := q) (C := cErr) (N := N) (bs := bs) (hdct := hdct) (sn := sn) (sub := sub) (ab := ab) (col := col) (dd := dd) (k0 := k0) (k1 := k1) (k2 := k2) (k3 := k3) (k5 := k5) F.excBase_Exception C.aok.hnd hplain hq (wpAny_mono (h.run s v) (fun f s1 ⟨V1, H1, v1, hf, h1⟩ => ⟨hf, ?_⟩) fun _ _ ⟨_, _, _, x⟩ => x.elim)
  refine wpAny_mono (h1.run s1 v1) (fun a s2 ⟨V2, H2, v2, hk, hl, h2⟩ => ⟨hk, line_le (by omega), v2.old hC, hN.keeps v2.fr.keep, fun h' e hm => h2 s2 v2 h' e hm⟩) fun _ _ ⟨_, _, _, x⟩ => x.elim
end
-- part F25
/-! too few bits: the raise -/
theorem w_evalArgsE {F : Fn} {C : Cx F} {E : Value → Vals → Led → Prop} {V : Vals} {H : Led} {f : Value} {e : Expr} {rest : List Expr} {pos : Pos} {Q : Args → Vals → Led → Prop}
    (h : W C E (spliced (backTo pos (starEach (e :: rest) C.env))) V H (fun vs V1 H1 => Q ⟨vs, []⟩ V1 H1)) (he : starEach (e :: rest) C.env = (false, eval e C.env) :: starEach rest C.env := by kernel_rfl) :
    W C E (evalArgs f true (backTo pos (starEach (e :: rest) C.env)) []) V H Q := by
  rw [he] at h ⊢; exact w_evalArgs h
theorem seg_wr {F : Fn} {w : World} {A : Around} {R : GenEnd} {Y : Protocol} {n : Nat} {s₀ : Shared} {c : Code} {fs : List Frame} {s : Shared} {α : Type} {C : Cx F} {m : Sem α} {K : α → Sem Fin} {Hh : Value → Sem Fin} {gd : Bool → Bool} {lv : List Value → List Value} {V : Vals} {H : Led} {Φ : Value → Shared → Prop}
    (hw : C.w = w) (hA : C.A = A.over c fs) (hW : WR C m V H Φ) (v : Vw C V H s) (k : ∀ e s', Φ e s' → Seg (model prog w) A R Y n s₀ c (Hh e) fs s') : Seg (model prog w) A R Y n s₀ c (m.wrap K Hh gd lv) fs s := by
  subst hw
  have key := hW.run s v
  rw [hA] at key
  exact seg_wrap (wpAny_mono key (fun _ _ x => x.elim) fun e s' x => k e s' x)
theorem pieceOfR {F : Fn} {G : GC F} {A : Around} {ok : AOk G.n A} {g₀ : Array GenState} {α : Type} {f : Env → Sem α} {V : Vals} {H : Led} {Φ : Value → Shared → Prop}
    (P : ∀ C : Cx F, C = G.cx A ok g₀ → C.w = G.w → C.n = G.n → C.h₀ = G.h₀ → WR C (f C.env) V H Φ) (ho : ∀ L, F.mkE L = fun _ => F.mkE L 0) : WR (G.cx A ok g₀) (f G.env) V H Φ := P _ rfl rfl rfl rfl
set_option maxHeartbeats 1000000 in
theorem upfa_goesR {w : World} {A : Around} {x : Addr} {is : List II} {low : Bool} {Z : Led} {gs : List G} {data : List UInt8} {off : Nat} {t1 t2 : Tok} (hZ : CfL x is low Z) (hS : is.map II.spec = specOf 0 gs)
    (hdl : data.length ≤ 100) (hgsz : sizes gs ≤ 1000) (hA : AOk 6 A) {fs : List Env} {gu : Led} (hfr : A.frames = some fs) (hfs : FsOk fs gu) (hnf : NonF gu) {s : Shared} (hB : Base w (hideAll s.heap (keys gu))) (hb : ledIn Z (hideAll s.heap (keys gu)))
    (hgu : ∀ p ∈ gu, s.heap.get? p.1 = some p.2) (hnd : (keys gu).Nodup) {L : Addr} (hL : s.heap.objs.size ≤ L) {s2 : Shared} (hkeep : ∀ b o, s.heap.get? b = some o → s2.heap.get? b = some o)
    (hns : s2.heap.Ns L (slot fn_upfa.names [some (.ref x), some (.bytes data.toArray t1), some (.int off t2), some (.bool false), none, none, none, none, none])) (hos : s2.os = s.os)
    {bits : List Bool} (hbits : bits = (bitsB data).drop off) (hfew : bits.length < sizes gs) :
    (GenState.fresh (.func (bodyOf (fdAt 438)) (callEnv fn_upfa.fd L fn_upfa.addr))).Goes (model prog w) A (fun n s₀ r s₁ => ∃ e, r = .error e ∧ RzPostK (L :: keys gu) gu fs s₀ e s₁) (fun _ _ _ _ _ => False) 0 (.send .none) s2 := by
  refine ⟨rfl, ?_⟩
  have ok := (upfa_is w).ok
  obtain ⟨dx, od, l, n, Li, hI, hO, rfl⟩ := id hZ.ex
  obtain ⟨ko, kb, ka, hD⟩ := hO.ex
  have hc := cf_ok w
  let Gc : GC fn_upfa := { w, A, L, h₀ := hideAll s.heap (keys gu), os₀ := s.os, n := 5, aok := hA, base := hB, K := [] }
  obtain ⟨X, hX⟩ : ∃ X, X = others (hideAll s.heap (keys gu)) s2.heap (L :: keys gu) := ⟨_, rfl⟩
  obtain ⟨gu0, hgu0⟩ : ∃ gu0, gu0 = gu ++ X := ⟨_, rfl⟩
  have a1 : AOk 5 (A.over (.func (bodyOf (fdAt 438)) Gc.env) []) := hA.over_func _ _
  have v0 : Vw (Gc.cx _ a1 s2.gens) [some (.ref x), some (.bytes data.toArray t1), some (.int off t2), some (.bool false), none, none, none, none, none] gu0 s2 := by
    refine ⟨⟨hns, fun b o e => hkeep b o (of_hideAll _ e), Nat.le_trans (Nat.le_of_eq (hideAll_size _ _)) hL⟩, fun p hp => ?_, ?_, .refl _, hos⟩
    · rw [hgu0] at hp
      rcases List.mem_append.mp hp with q | q
      · exact ⟨hkeep _ _ (hgu p q), (fun e => by
          have h1 := Heap.lt_size (hgu p q)
          rw [show p.1 = L from e] at h1
          exact Nat.lt_irrefl _ (Nat.lt_of_lt_of_le h1 hL)), hideAll_none _ (List.mem_map_of_mem q)⟩
      · rw [hX] at q
        have := mem_others.mp q
        exact ⟨this.2.2, fun e => this.1 (by rw [show p.1 = L from e]; exact .head _), this.2.1⟩
    · rw [hgu0, List.map_append, List.nodup_append]
      refine ⟨hnd, by rw [hX]; exact others_nd _ _ _, fun a ha b hb e => ?_⟩
      subst e
      obtain ⟨q, hq, rfl⟩ := List.mem_map.mp hb
      rw [hX] at hq
      exact (mem_others.mp hq).1 (.tail _ ha)
  have hBL : bits.length ≤ 800 := by rw [hbits, List.length_drop, bitsB_len]; omega
  show Seg _ A _ _ _ s2 (.func (bodyOf (fdAt 438)) Gc.env) ((model prog w).den (.func (bodyOf (fdAt 438)) Gc.env)) [] s2
  refine seg_func ?_
  have hx : (hideAll s.heap (keys gu)).get? x = some (instObj 507 dx) := hb _ (.head _)
  have hdx : (hideAll s.heap (keys gu)).get? dx = some od := hb _ (.tail _ (.head _))
  refine seg_execs_cons ?_
  refine seg_w (C := Gc.cx _ a1 s2.gens) (Q := fun f V' H' => f = .next ∧ gu0 = H' ∧ ∃ t, V' = [some (.ref x), some (.bytes data.toArray t1), some (.int off t2), some (.bool false), some (.str (S (chs bits)) t), none, none, none, none]) rfl rfl
    (pieceOf (f := fun e => exec _ e) (fun C hw hn hh => ?_) (fun _ => rfl)) v0 ?_
  · try dsimp only
    walk_at "ww"
    ktf_call 234
    walk_at "ww"
    refine w_spz (b2a_sp (by omega)) (by rw [hn]; show 2 ≤ 5; decide) (fun _ _ => trivial) (fun _ _ ⟨_, _, e⟩ => e) ?_
    rintro v P' ⟨t1, rfl, _⟩
    refine w_add_B (by simp [hexB, hexDs_len]; omega) fun t2 => ?_
    walk_at "ww"
    have e1 : [48, 49] ++ hexB (hexDs data) = hexB (0 :: 1 :: hexDs data) := rfl
    rw [e1]
    refine w_int16 (ds := 0 :: 1 :: hexDs data) ?_ (by simp) (by simp) (by simp [hexDs_len]; omega) fun t3 => ?_
    · intro d hd
      rcases List.mem_cons.mp hd with rfl | hd
      · decide
      · rcases List.mem_cons.mp hd with rfl | hd
        · decide
        · exact hexDs_lt data d hd
    walk_at "ww"
    refine w_bin (k := 8 * data.length) (m := vB data) ?_ (vB_lt data) (by omega) fun t4 => ?_
    · have : foldD 16 (0 :: 1 :: hexDs data) 0 = foldD 16 (hexDs data) 1 := rfl
      rw [this, foldD_acc16, hexDs_len, pow16, Nat.one_mul]; rfl
    walk_at "ww"
    refine cut_str (.int _ _) .none (by simp [chs_len, bitsN_len]; omega) fun t5 => ?_
    rw [cutF (k := 3 + off) (by omega)]
    walk_at "ww"
    refine ⟨rfl, rfl, t5, ?_⟩
    have : List.drop (3 + off) ([48, 98, 49] ++ chs (bitsN (8 * data.length) (vB data))) = chs bits := by
      rw [hbits, ← chs_drop, ← List.drop_drop]; rfl
    rw [this]
  rintro f V' H' s3 v3 ⟨rfl, rfl, t3, rfl⟩
  dsimp only
  refine seg_execs_cons ?_
  refine seg_If (wp_w (C := Gc.cx _ a1 s2.gens) (Q := fun b V' H' => b = true ∧ gu0 = H' ∧ V' = [some (.ref x), some (.bytes data.toArray t1), some (.int off t2), some (.bool false), some (.str (S (chs bits)) t3), none, none, none, none]) rfl rfl
    (pieceOf (f := fun e => isTrue _ e (eval _ e)) (fun C hw hn hh => ?_) (fun _ => rfl)) v3 ?_)
  · try dsimp only
    have hx' : C.h₀.get? x = some (instObj 507 dx) := by rw [hh]; exact hx
    have hdx' : C.h₀.get? dx = some od := by rw [hh]; exact hdx
    have hc := cf_ok C.w
    walk_at "ww"
    refine ⟨fun ha => ?_, fun ha => nomatch ha⟩
    walk_at "ww"
    refine w_getOwn (.inr hx') (.inr hdx') hD (hc.hg _) hc.hh (hc.fi cBits (by simp)) (val := .int (bitsOf is) kb) (by kernel_rfl) rfl ?_
    rw [bitsOf_eq hS]
    walk_at "ww"
    refine w_len_S (by rw [chs_len]; omega) fun t4 => ?_
    rw [chs_len]
    walk_at "ww"
    refine ⟨fun _ => ?_, fun h => absurd (of_decide_eq_false h) (by omega)⟩
    walk_at "ww"
    exact ⟨rfl, rfl, rfl⟩
  rintro b V' H' s4 v4 ⟨rfl, rfl, rfl⟩
  rw [if_pos rfl]
  refine seg_execs_cons ?_
  refine seg_wr (C := Gc.cx _ a1 s2.gens) (Φ := fun e s' => ∃ ea args s5 h', e = .ref ea ∧ s' = { s5 with heap := h' } ∧ Vw (Gc.cx _ a1 s2.gens) [some (.ref x), some (.bytes data.toArray t1), some (.int off t2), some (.bool false), some (.str (S (chs bits)) t3), none, none, none, none] gu0 s5 ∧ Heap.MadeExcOf s5.heap h' ea (.ref cErr) args) rfl rfl
    (pieceOfR (f := fun e => exec _ e) (fun C hC hw hn hh => ?_) (fun _ => rfl)) v4 ?_
  · try dsimp only
    have hx' : C.h₀.get? x = some (instObj 507 dx) := by rw [hh]; exact hx
    have hdx' : C.h₀.get? dx = some od := by rw [hh]; exact hdx
    have hc := cf_ok C.w
    refine wr_Raise (by kernel_rfl) ?_
    ktf_call 74
    refine ⟨rfl, ?_⟩
    refine w_evalArgsE ?_
    refine w_args_cons ?_
    walk_at "ww"
    refine w_str ?_
    intro tm
    refine w_format_m ?_
    walk_at "ww"
    refine w_getOwn (.inr hx') (.inr hdx') hD (hc.hg _) hc.hh (hc.fi cBits (by simp)) (val := .int (bitsOf is) kb) (by kernel_rfl) rfl ?_
    rw [bitsOf_eq hS]
    walk_at "ww"
    refine w_len_S (by rw [chs_len]; omega) fun t4 => ?_
    rw [chs_len]
    walk_at "ww"
    refine w_fmtErr (by omega) (by omega) (by omega) (by omega) fun T tT => ?_
    walk_at "ww"
    refine ⟨rfl, by simp, fun s5 v5 h' e hm => ⟨e, _, s5, h', rfl, rfl, ?_, hm⟩⟩
    rw [← hC]; exact v5
  rintro e s' ⟨ea, args, s5, h', rfl, rfl, v5, hm⟩
  have v5g : ∀ p ∈ gu, s5.heap.get? p.1 = some p.2 := fun p hp => v5.at (by rw [hgu0]; exact List.mem_append_left X hp)
  have hkb : (hideAll s2.heap (L :: keys gu)).StaysIn s5.heap := fun b o e => by
    have e2 := of_hideAll _ e
    have hbk : b ∉ L :: keys gu := fun hm => by rw [hideAll_none _ hm] at e; cases e
    cases e0 : (hideAll s.heap (keys gu)).get? b with
    | some o' =>
      have h1 := hkeep _ _ (of_hideAll _ e0)
      rw [e2] at h1
      rw [Option.some.inj h1]
      exact v5.fr.keep _ _ e0
    | none => exact v5.at (by rw [hgu0]; refine List.mem_append_right gu ?_; rw [hX]; exact mem_others.mpr ⟨hbk, e0, e2⟩)
  have hfl : s5.heap.FunFrames (hideAll s2.heap (L :: keys gu)) (Gc.env :: fs) := by
    obtain ⟨oL, es, ep, h1, h2, _⟩ := v5.fr.ns
    refine ⟨by rw [show Gc.env.scope.kind = .function from ok.env_fun (Gc.cx _ a1 s2.gens)]; decide, ⟨L, oL, rfl, hideAll_none _ (.head _), h1, fun vs q => by rw [h2] at q; cases q⟩, funFrames_of (.of v5g) hnf (fun p hp => hideAll_none _ (.tail _ (List.mem_map_of_mem hp))) hfs⟩
  refine seg_wrap (leaving_made (base := hideAll s2.heap (L :: keys gu)) (h := s5.heap) (outer := fs) (L := L) (by show A.frames.map _ = _; rw [hfr]; rfl) rfl hkb hfl hm fun h6 a0 hA6 u6 => ?_)
  refine seg_end (.error (.ref ea)) ⟨.ref ea, rfl, ea, a0, rfl, hA6, ?_, v5.gens, v5.os.trans hos.symm⟩
  exact (Slotted.of fun p hp => hm.keeps _ _ (v5g p hp)).up hnf u6

theorem Vw.hidden {F : Fn} {C : Cx F} {V : Vals} {gu : Led} {fs : List Env} {s : Shared} (v : Vw C V gu s) (ok : FnOk F) {oL : Obj} (hLg : s.heap.get? C.L = some oL) (hfr : C.env.frame = some C.L) (hfs : FsOk fs gu) (hnf : NonF gu) :
    C.h₀.StaysIn (hideAll s.heap (keys ((C.L, oL) :: gu))) ∧ (keys ((C.L, oL) :: gu)).Nodup ∧ NonF ((C.L, oL) :: gu) ∧ FsOk (C.env :: fs) ((C.L, oL) :: gu) ∧ ∀ p ∈ (C.L, oL) :: gu, s.heap.get? p.1 = some p.2 := by
  obtain ⟨oL', es, ep, hLg', hLd, hLr⟩ := v.fr.ns
  rw [hLg] at hLg'
  cases hLg'
  have hLn : C.h₀.get? C.L = none := by
    cases e : C.h₀.get? C.L with
    | none => rfl
    | some o => exact absurd (Nat.lt_of_lt_of_le (Heap.lt_size e) v.fr.above) (Nat.lt_irrefl _)
  have nb : ∀ a o, C.h₀.get? a = some o → a ∉ keys ((C.L, oL) :: gu) := fun a o e hm => by
    rcases List.mem_cons.mp hm with q | hm
    · have q' : a = C.L := q
      rw [q', hLn] at e; cases e
    · obtain ⟨p, hp, rfl⟩ := List.mem_map.mp hm
      rw [(v.nw p hp).2.2] at e; cases e
  refine ⟨fun a o e => hideAll_get _ (v.old e) (nb a o e), List.nodup_cons.mpr ⟨fun hm => ?_, v.nd⟩, fun p hp => ?_, fun e he => ?_, fun p hp => ?_⟩
  · obtain ⟨p, hp, e⟩ := List.mem_map.mp hm
    exact (v.nw p hp).2.1 e
  · rcases List.mem_cons.mp hp with rfl | hp
    · intro vs q; rw [hLd] at q; cases q
    · exact hnf p hp
  · rcases List.mem_cons.mp he with rfl | he
    · exact ⟨by rw [ok.env_fun C]; decide, _, .head _, hfr⟩
    · obtain ⟨a, p, hp, hf⟩ := hfs e he
      exact ⟨a, p, .tail _ hp, hf⟩
  · rcases List.mem_cons.mp hp with rfl | hp
    · exact hLg
    · exact v.at hp
theorem cf_uf_rz {w : World} {x : Addr} {is : List II} {low : Bool} {Z : Led} {gs : List G} {data : List UInt8} {off : Nat} {t1 t2 : Tok} {bits : List Bool} (hZ : CfL x is low Z) (hS : is.map II.spec = specOf 0 gs) (hgsz : sizes gs ≤ 1000)
    (hdl : data.length ≤ 100) (hbits : bits = (bitsB data).drop off) (hfew : bits.length < sizes gs) :
    Rz w 8 (call (.ref 504) [.ref x, .bytes data.toArray t1, .int off t2] [(Str.ofString "allow_truncated", .bool false)]) (ledIn Z) := by
  refine Rz.def (F := fn_cf_uf) (n := 7) (vals := [_, _, _, _]) (cf_uf_is w) rfl rfl (fun s A gu p => binds_K (T := 499) (o := tupO [.int 0 1069, .bool false]) p.kin rfl (by kernel_rfl) rfl rfl rfl) (by show 4 ≤ 4; decide) (V₀ := [some (.ref x), some (.bytes data.toArray t1), some (.int off t2), some (.bool false)]) rfl (fun C gu fs hw hn hb hA hfr hfs hnf => ?_)
  have ok := (cf_uf_is w).ok
  subst hw
  obtain ⟨dx, od, l, n, L, hI, hO, rfl⟩ := id hZ.ex
  obtain ⟨ko, kb, ka, hD⟩ := hO.ex
  have hc := cf_ok C.w
  have hx : C.h₀.get? x = some (instObj 507 dx) := hb _ (.head _)
  have hdx : C.h₀.get? dx = some od := hb _ (.tail _ (.head _))
  refine wr_cons (wr_Return (wr_Call ?_))
  walk_at "ww"
  refine wr_cwArg ?_
  refine wr_LCgen (F' := fn_ufC) ufC_ok ok (cl := []) (fun L => by kernel_rfl) (by kernel_rfl) (by kernel_rfl) (by kernel_rfl) (by kernel_rfl) hfr hA hfs hnf (Fg := fn_upfa) (body := bodyOf (fdAt 438))
    (V₀ := [some (.ref x), some (.bytes data.toArray t1), some (.int off t2), some (.bool false), none, none, none, none, none]) (ws_MethodCall ?_)
  walk_at "ww"
  refine w_methInst (.inr hx) (.inr hdx) hD (hc.hg _) (by kernel_rfl) (by kernel_rfl) (by kernel_rfl) (f := 438) ?_
  refine ws_cwK ?_
  walk_at "ww"
  refine ws_callGen (F := fn_upfa) (vals := [_, _, _, _]) (upfa_is C.w) rfl rfl (fun s v => BindsTo.of_eq (by kernel_rfl)) (by show 4 ≤ 9; decide) (V₀ := [some (.ref x), some (.bytes data.toArray t1), some (.int off t2), some (.bool false), none, none, none, none, none]) rfl (fun s s1 a g L v fg => ?_)
  refine ⟨s, _, [], a, g, L, rfl, v, fg, fun oL s2 hLg hp hkeep hns hos hnL => ?_⟩
  obtain ⟨st, nd, nf, ff, hg⟩ := v.hidden ok hLg hfr hfs hnf
  exact upfa_goesR (A := C.A.in1) hZ hS hdl hgsz (by have := C.aok; rw [hn] at this; exact this.in1) hA ff nf (C.base.keeps st) (fun p hp => st _ _ (hb p hp)) hg nd hnL hkeep hns hos hbits hfew
theorem m_uf_rz {w : World} {fs : List Fi} {gs : List G} {tail : Option Bool} {data : List UInt8} {off : Nat} {t1 t2 t3 : Tok} {bits : List Bool} (hF : FmtOk fs gs)
    (hdl : data.length ≤ 100) (hbits : bits = (bitsB data).drop off) (hfew : bits.length < sizes gs) :
    Rz w 9 (call (.ref 539) [.str (S (fmtL fs ++ tailL tail)) t1, .bytes data.toArray t2, .int off t3]) (fun _ => True) := by
  refine Rz.def (F := fn_m_uf) (n := 8) (vals := [_, _, _, .bool false, .str (Str.ofString "utf-8") 1117, .str (Str.ofString "strict") 1118]) (m_uf_is w) rfl rfl (fun s A gu p => binds_K (T := 532) (o := tupO [.int 0 1116, .bool false, .str (Str.ofString "utf-8") 1117, .str (Str.ofString "strict") 1118]) p.kin rfl (by kernel_rfl) rfl rfl rfl) (by show 6 ≤ 6; decide)
    (V₀ := [some (.str (S (fmtL fs ++ tailL tail)) t1), some (.bytes data.toArray t2), some (.int off t3), some (.bool false), some (.str (S utf8L) 1117), some (.str (S strictL) 1118)]) (by kernel_rfl) (fun C gu fs' hw hn hb hA hfr hfs hnf => ?_)
  have ok := (m_uf_is w).ok
  subst hw
  refine wr_cons (wr_Return (wr_MethodCall ?_))
  walk_at "ww"
  ktf_call 507
  walk_at "ww"
  refine w_newCf3 (by omega) hF.ok hF.ne hF.len fun x is Z hS hZ => ?_
  obtain ⟨dx, od, l, n, L, hI, hO, rfl⟩ := id hZ.ex
  obtain ⟨ko, kb, ka, hD⟩ := hO.ex
  have hc := cf_ok C.w
  walk_at "ww"
  refine w_methInst (.inl (.head _)) (.inl (.tail _ (.head _))) hD (hc.hg _) (by kernel_rfl) (by kernel_rfl) (by kernel_rfl) (f := 504) ?_
  refine wr_cwK ?_
  walk_at "ww"
  exact wr_call (R := (x, instObj 507 dx) :: (dx, od) :: (l, listO (irefs is) n) :: L) ok (cf_uf_rz hZ (hS.trans hF.spec) (by have := hF.size; omega) hdl hbits hfew) (by omega) hfr hA hfs hnf (fun hp k p hp' => k _ _ (.inl hp'))
-- part Rz5
/-- a raise seen from the def that will catch it -/
structure AtTop {F : Fn} (C : Cx F) (V : Vals) (H : Led) (a : Addr) (s' : Shared) : Prop where
  ex : ∃ s0 oL a0, Vw C V H s0 ∧ s0.heap.get? C.L = some oL ∧ AnyW (hideAll s0.heap [C.L]) [C.env] a a0 s'.heap ∧ Slotted [(C.L, oL)] s'.heap ∧ GensOk s0.gens s'.gens ∧ s'.os = s0.os
noncomputable def FlyTop {F : Fn} (C : Cx F) (V : Vals) (H : Led) (e : Value) (s' : Shared) : Prop := ∃ a, e = .ref a ∧ AtTop C V H a s'
section
variable {F : Fn} {C : Cx F} {V : Vals} {H : Led}
theorem AtTop.vw {a : Addr} {s' : Shared} (x : AtTop C V H a s') : Vw C V H s' := by
  obtain ⟨s0, oL, a0, v, hL, hA, hS, hG, hO⟩ := x.ex
  have st := hA.1
  have hLn : C.h₀.get? C.L = none := by
    cases e : C.h₀.get? C.L with
    | none => rfl
    | some o => exact absurd (Nat.lt_of_lt_of_le (Heap.lt_size e) v.fr.above) (Nat.lt_irrefl _)
  obtain ⟨oL', es, ep, hLg', hLd, hLr⟩ := v.fr.ns
  rw [hL] at hLg'
  cases hLg'
  obtain ⟨sl, e⟩ := hS _ (.head _)
  refine ⟨⟨⟨_, es, ep, e, hLd, hLr⟩, fun b o eb => st b o (hideAll_get _ (v.old eb) fun hm => ?_), v.fr.above⟩, fun p hp => ⟨st _ _ (hideAll_get _ (v.at hp) fun hm => ?_), (v.nw p hp).2⟩, v.nd, v.gens.trans hG, hO.trans v.os⟩
  · rcases List.mem_cons.mp hm with q | hm
    · rw [q, hLn] at eb; cases eb
    · cases hm
  · rcases List.mem_cons.mp hm with q | hm
    · exact (v.nw p hp).2.1 q
    · cases hm
theorem AtTop.move {a : Addr} {s' : Shared} (x : AtTop C V H a s') {M : Model} {A : Around} {E : Value → Shared → Prop} {Q : Unit → Shared → Prop} {t : Sem Unit}
    (ht : ∀ {base : Heap} {a0 : Value}, AnyW base [C.env] a a0 s'.heap → (∀ h', AnyW base [C.env] a a0 h' → s'.heap.UpToSlots h' → Q () { s' with heap := h' }) → wpAny M A t Q E s')
    (k : ∀ h', AtTop C V H a { s' with heap := h' } → Q () { s' with heap := h' }) : wpAny M A t Q E s' := by
  obtain ⟨s0, oL, a0, v, hL, hA, hS, hG, hO⟩ := x.ex
  obtain ⟨oL', es, ep, hLg', hLd, hLr⟩ := id v.fr.ns
  rw [hL] at hLg'
  cases hLg'
  have hnf : NonF [(C.L, oL)] := fun p hp => by
    rw [List.mem_singleton.mp hp]
    intro vs q; rw [hLd] at q; cases q
  exact ht hA fun h' x' u' => k h' ⟨⟨s0, oL, a0, v, hL, x', hS.up hnf u', hG, hO⟩⟩
theorem wr_callTop {m : Nat} {t : Sem Value} {pre : Heap → Prop} (ok : FnOk F) (hz : Rz C.w m t pre) (hm : m ≤ C.n) (hfr : C.env.frame = some C.L) (hA : C.A.frames = some [C.env])
    (hpre : ∀ h : Heap, (∀ a o, Has C H a o → h.get? a = some o) → pre h) : WR C t V H (FlyTop C V H) := .mk fun s v => by
  obtain ⟨oL, es, ep, hLg, hLd, hLr⟩ := v.fr.ns
  have hLn : C.h₀.get? C.L = none := by
    cases e : C.h₀.get? C.L with
    | none => rfl
    | some o => exact absurd (Nat.lt_of_lt_of_le (Heap.lt_size e) v.fr.above) (Nat.lt_irrefl _)
  have nb : ∀ a o, C.h₀.get? a = some o → a ∉ keys [(C.L, oL)] := fun a o e hm => by
    rcases List.mem_cons.mp hm with q | hm
    · have q' : a = C.L := q
      rw [q', hLn] at e; cases e
    · cases hm
  have hid : ∀ a o, Has C H a o → (hideAll s.heap (keys [(C.L, oL)])).get? a = some o := fun a o x => by
    rcases x with x | x
    · refine hideAll_get _ (v.at x) fun hm => ?_
      rcases List.mem_cons.mp hm with q | hm
      · exact (v.nw _ x).2.1 q
      · cases hm
    · exact hideAll_get _ (v.old x) (nb a o x)
  have pr : Pre C.w m [(C.L, oL)] pre C.A s := ⟨C.aok.le hm, C.base.keeps fun a o e => hid a o (.inr e), fun p hp => by rw [List.mem_singleton.mp hp]; exact hLg, List.nodup_cons.mpr ⟨(fun h => nomatch h), List.nodup_nil⟩, hpre _ hid⟩
  refine wpAny_mono (hz C.A s _ _ pr hA (fun e he => by
    rw [List.mem_singleton.mp he]
    exact ⟨by rw [ok.env_fun C]; decide, _, .head _, hfr⟩) (fun p hp => by
    rw [List.mem_singleton.mp hp]
    intro vs q; rw [hLd] at q; cases q)) (fun _ _ x => x) fun e s' ⟨a, a0, he, hA', hS, hG, hO⟩ => ?_
  exact ⟨a, he, ⟨s, oL, a0, v, hLg, hA', hS, hG, hO⟩⟩
theorem wp_setNone (ok : FnOk F) {A : Around} {E : Value → Shared → Prop} {s : Shared} {x : Str} {xp apos cp : Pos} {k : Nat} {V' : Vals} (v : Vw C V H s) (hs : SetL x .none F.names V V')
    (h1 : swapsWithSole [.Name x xp] (.Constant .none k cp) apos.line C.env = Pure.pure false) (h2 : swappedStores [.Name x xp] (.Constant .none k cp) C.env = Pure.pure none) {Q : Flow → Shared → Prop} (hQ : ∀ s', Vw C V' H s' → Q .next s') :
    wpAny (model prog C.w) A (execs [.Assign [.Name x xp] (.Constant .none k cp) apos] C.env) Q E s := by
  obtain ⟨i, hi, hsa⟩ := hs.at
  obtain ⟨rfl, hl⟩ := hsa.eq
  rw [execs_cons]
  refine wpAny_bind ?_
  show wpAny _ A (do
    standAt apos
    if ← swapsWithSole [.Name x xp] (.Constant .none k cp) apos.line C.env then do
      evalThenUse (.Constant .none k cp) C.env fun v => assignAll v ((assignEach [.Name x xp] C.env).map (·.2))
      Pure.pure .next
    else do
      let v ← eval (.Constant .none k cp) C.env
      assignStores C.env v (← swappedStores [.Name x xp] (.Constant .none k cp) C.env) ((assignEach [.Name x xp] C.env).map (·.2))) _ E s
  rw [h1, h2]
  refine wpAny_bind (wpAny_standAt (wpAny_bind (wpAny_pure ?_)))
  show wpAny _ A (do let v ← eval (.Constant .none k cp) C.env; _) _ E s
  refine wpAny_bind (Constant_none (wpAny_bind (wpAny_pure ?_)))
  refine wpAny_bind (wpAny_assign_Name ?_)
  refine wpAny_storeName_local ((ok.env_kind C x).trans (ok.loc _ (List.mem_of_getElem? hi))) (by rw [ok.env_locals]; exact v.fr.ns) (fun h' hn hsb => ?_) (by rw [ok.env_fun]; rfl)
  rw [ok.env_locals] at hn hsb
  refine wpAny_pure (wpAny_execs_nil (hQ _ ⟨?_, v.nw.set hsb, v.nd, v.gens, v.os⟩))
  rw [slot_set ok.nd hi hl]; exact v.fr.set hn hsb
/-- try: a call that raises; except Error_bitstruct: x = None -/
theorem w_TryErr (ok : FnOk F) {E : Value → Vals → Led → Prop} {body : List Stmt} {ex x : Str} {np xp apos cp hpos pos : Pos} {k : Nat} {V' : Vals} {Q : Flow → Vals → Led → Prop}
    (hfr : C.env.frame = some C.L) (hA : C.A.frames = some [C.env]) (h : WR C (execs body C.env) V H (FlyTop C V H)) (hs : SetL x .none F.names V V') (hQ : Q .next V' H)
    (hex : F.fd.scope.names.lookup ex = some .globalImplicit := by kernel_rfl) (hexv : nsIn (KF C.w) mainGlobals ex = some (some (.ref cErr)) := by kernel_rfl) (hd : (ex == ("__debug__" : Str)) = false := by decide)
    (h1 : swapsWithSole [.Name x xp] (.Constant .none k cp) apos.line C.env = Pure.pure false := by kernel_rfl) (h2 : swappedStores [.Name x xp] (.Constant .none k cp) C.env = Pure.pure none := by kernel_rfl) :
    W C E (exec (.Try body [.ExceptHandler (some (.Name ex np)) none [.Assign [.Name x xp] (.Constant .none k cp) apos] hpos] [] [] pos) C.env) V H Q := .mk fun s v => by
  refine wpAny_Try_except (wpAny_mono (h.run s v) (fun _ _ x => x.elim) fun e s1 ⟨a, he, x1⟩ => ?_)
  subst he
  refine x1.move (fun hx hk => noteFrame_any hA hfr hx hk) fun h2' x2 => ?_
  refine x2.move (fun hx hk => setFlight_any hx hk) fun h3 x3 => ?_
  have v3 := x3.vw
  obtain ⟨mg, hn⟩ := v3.base.g
  refine wpAny_handleBy_cons (codeAny_handlers_test (Name_function_global (ok.env_fun C) ((ok.env_kind C ex).trans hex) (loadGlobal_global (env := C.env) (by rw [ok.env_globals]; exact hn) (mg_of v3.base.kin hn hexv) ?_) hd)) (by intro q; cases q)
  obtain ⟨N, nm, q, bs, hdct, sn, sub, ab, col, dd, k0, k1, k2, k3, k5, mN, hC, hN, hq⟩ := v3.base.err
  obtain ⟨s0, oL, a0, _, _, hAW, _⟩ := x3.ex
  obtain ⟨ob, hob, hobc⟩ := hAW.there
  refine wpAny_excMatches_sub_self hC hob hobc (by decide +kernel) (codeAny_handlers_suite ?_)
  refine x3.move (fun hx hk => setFlight_any hx hk) fun h4 x4 => ?_
  exact wp_setNone ok x4.vw hs h1 h2 fun s5 v5 => ⟨V', H, v5, hQ⟩
end
-- part L0
/-! the law -/
structure Drw (box few : Addr) (ob ofew : Obj) : Prop where
  ex : ∃ (fvs : List Value) (ns : List Int) (b : Nat) (tb : Tok), LO ob [.ref few, .int b tb] ∧ LO ofew fvs ∧ IntL fvs ns ∧ 0 < ns.length ∧ ns.length < 2 ^ 60
section
variable {F : Fn} {C : Cx F} {E : Value → Vals → Led → Prop} {V : Vals} {H : Led}
theorem w_draw {box few : Addr} {ob ofew : Obj} {R : Led} {limit : Int} {tl : Tok} {Q : Value → Vals → Led → Prop} (hd : Drw box few ob ofew) (hS : SubP ((box, ob) :: (few, ofew) :: R) H) (hl : 0 < limit) (hn : 2 ≤ C.n)
    (h : ∀ ob' t (d : Nat), (d : Int) < limit → Drw box few ob' ofew → Q (.int d t) V ((box, ob') :: (few, ofew) :: R)) : W C E (call (.ref 553) [.ref box, .int limit tl]) V H Q := by
  obtain ⟨fvs, ns, b, tb, h1, h2, h3, h4, h5⟩ := hd.ex
  refine w_drop' hS ?_
  refine w_sp (P := [(box, ob), (few, ofew)]) (R := R) (draw_sp h1 h2 h3 h4 h5 hl) hn .rfl (fun _ _ => trivial) ?_
  rintro v P' ⟨t, ob', t', rfl, rfl, hlo⟩
  have g0 : 0 ≤ drawN ns b limit := Int.emod_nonneg _ (by omega)
  have g1 : drawN ns b limit < limit := Int.emod_lt_of_pos _ hl
  obtain ⟨d, hd⟩ := Int.eq_ofNat_of_zero_le g0
  rw [hd] at g1 ⊢
  exact h ob' t d g1 ⟨fvs, ns, b + 1, t', by simpa using hlo, h2, h3, h4, h5⟩
end
@[reducible] noncomputable def fn_lawC (sc : Scope) (x : Str) : Fn := { addr := 598, names := [x], fd := reFd (fdAt 598) (relabel sc (callEnv (fdAt 598) 0 598)), mkE := fun L o => reScope (newEnv sc L mainGlobals [] (callEnv (fdAt 598) o 598).qual none .none (some (callEnv (fdAt 598) o 598)) builtinsNs) (relabel sc (callEnv (fdAt 598) o 598)) }
/-- a piece of the format: its tuple, its groups -/
structure Pc where
  a : Addr
  ma : Addr
  n : Nat
  t1 : Tok
  t2 : Tok
  fs : List Fi
  grps : List Grp
noncomputable abbrev Pc.gs (p : Pc) : List G := p.grps.map Grp.g
noncomputable abbrev Pc.pair (p : Pc) : List Fi × List G := (p.fs, p.gs)
noncomputable abbrev prs (ps : List Pc) : List (List Fi × List G) := ps.map Pc.pair
noncomputable def Pc.vs (p : Pc) (place : Nat) : List Value := [.str (S (fmtL p.fs)) p.t1, .int place p.t2, .ref p.ma]
structure Built (low : Bool) (PL : Led) (ps : List Pc) : Prop where
  at_ : ∀ (i : Nat) (p : Pc), ps[i]? = some p → (p.a, tupO (p.vs (sizes (allG (prs (ps.take i)))))) ∈ PL ∧ (p.ma, listO (refs p.grps) p.n) ∈ PL ∧ ∀ x ∈ p.grps, (x.a, tupO x.vs) ∈ PL
  pcs : Pcs low (prs ps)
noncomputable def prefs (ps : List Pc) : List Value := ps.map fun p => .ref p.a
theorem law_ok (w : World) : FnOk fn_law := (law_is w).ok
noncomputable def sc_piece : Scope := { kind := .function, names := [(Str.ofString ".0", .local), (Str.ofString "piece", .local)], isGenerator := false, isCoroutine := false }
theorem pieceC_ok : FnOk (fn_lawC sc_piece (Str.ofString "piece")) :=
  { nd := by decide +kernel, loc := by decide +kernel, kind := by kernel_rfl, dbg := by decide +kernel, gl := by kernel_rfl, bn := by kernel_rfl, en := fun _ _ => ⟨by kernel_rfl, rfl, by kernel_rfl, by kernel_rfl⟩ }
theorem fmt_flat (qs : List Pc) : (qs.map fun p => fmtL p.fs).flatten = fmtL (allF (prs qs)) := by
  induction qs with
  | nil => rfl
  | cons p r ih =>
    rw [List.map_cons, List.flatten_cons, ih]
    unfold allF prs fmtL
    rw [List.map_cons, List.flatMap_cons, List.flatMap_append]
/-- [piece[0] for piece in ..] -/
theorem w_LCp {C : Cx fn_law} {E : Value → Vals → Led → Prop} {V : Vals} {H : Led} {p1 p2 p3 p4 pos : Pos} {k : Nat} {iter : Expr} {Q : Value → Vals → Led → Prop} {qs : List Pc} (hq : qs.length ≤ 1000)
    (h : W C E (eval iter C.env) V H (fun x V1 H1 => ∃ l n, x = .ref l ∧ Has C H1 l (listO (prefs qs) n) ∧ (∀ p ∈ qs, ∃ place, Has C H1 p.a (tupO (p.vs place))) ∧ ∀ ws a, StrL ws (qs.map fun p => fmtL p.fs) → Q (.ref a) V1 ((a, listO ws ws.length) :: H1)))
    (hfold : ∀ x, foldedSetIterable iter C.env x = Pure.pure x := by intro _; kernel_rfl) :
    W C E (eval (.ListComp (.Subscript (.Name (Str.ofString "piece") p1) (.Constant (.int 0) k p2) p3) [⟨.Name (Str.ofString "piece") p4, iter, [], 0⟩] sc_piece pos) C.env) V H Q := by
  refine w_LC (F' := fn_lawC sc_piece (Str.ofString "piece")) pieceC_ok (cl := []) (fun L => by kernel_rfl) (by kernel_rfl) (by kernel_rfl) (by kernel_rfl) (by kernel_rfl) (h.mono fun x V1 H1 ⟨l, n, hx, hl, hp, fin⟩ => ?_) hfold
  refine ⟨l, _, prefs qs, hx, hl, .listO _ _, by unfold prefs; rw [List.length_map]; omega, fun i ws => StrL ws ((qs.take i).map fun p => fmtL p.fs), .nil, ?_, ?_⟩
  · intro C' V' H' i y ws hw' hn' ho hold hy hws hV'
    have ok := pieceC_ok
    obtain ⟨q, hq, rfl⟩ : ∃ q, qs[i]? = some q ∧ y = .ref q.a := by
      unfold prefs at hy
      rw [List.getElem?_map] at hy
      cases e : qs[i]? with
      | none => rw [e] at hy; cases hy
      | some x => rw [e] at hy; cases hy; exact ⟨x, rfl, rfl⟩
    obtain ⟨place, hpt⟩ := hp q (List.mem_of_getElem? hq)
    obtain ⟨v0, rfl⟩ : ∃ v0, V' = [v0] := by
      match V', hV' with
      | [v0], _ => exact ⟨v0, rfl⟩
    refine w_assign_Name ?_
    walk_at "ww"
    refine w_tests0 ?_
    refine ⟨fun _ => ?_, fun h => nomatch h⟩
    walk_at "ww"
    refine w_itup (.inr (hold _ _ hpt)) (i := 0) (x := .str (S (fmtL q.fs)) q.t1) rfl rfl (by decide) ?_
    refine ⟨rfl, .rfl, ?_⟩
    show StrL _ ((qs.take (i + 1)).map fun p => fmtL p.fs)
    rw [List.take_add_one, hq, List.map_append]
    exact StrL.snoc hws
  · intro ws a hws
    refine fin ws a ?_
    have e : (prefs qs).length = qs.length := by unfold prefs; rw [List.length_map]
    have hws : StrL ws ((qs.take (prefs qs).length).map fun p => fmtL p.fs) := hws
    rw [e, List.take_length] at hws
    exact hws
theorem col_backs : ∀ (l : List Grp), PVs (backsG (l.map Grp.g)) (colOf 5 l)
  | [] => .nil
  | x :: r => by
    have ih := col_backs r
    obtain ⟨k1, k2, k3, k4, va, vb, hvs, hva, hvb⟩ := x.gv.ex
    unfold backsG colOf at ih ⊢
    rw [List.map_cons]
    have hk : x.keep = x.g.keep := rfl
    cases hq : x.g.keep with
    | true =>
      rw [List.filter_cons_of_pos hq, List.filter_cons_of_pos (by rw [hk, hq]), List.map_cons, List.map_cons]
      refine .cons ?_ ih
      rw [hvs]; exact hvb
    | false =>
      rw [List.filter_cons_of_neg (by rw [hq]; decide), List.filter_cons_of_neg (by rw [hk, hq]; decide)]
      exact ih
theorem col_vals : ∀ (l : List Grp), PVs (vals (l.map Grp.g)) (colOf 4 l)
  | [] => .nil
  | x :: r => by
    have ih := col_vals r
    obtain ⟨k1, k2, k3, k4, va, vb, hvs, hva, hvb⟩ := x.gv.ex
    unfold vals colOf at ih ⊢
    rw [List.map_cons]
    have hk : x.keep = x.g.keep := rfl
    cases hq : x.g.keep with
    | true =>
      rw [List.filter_cons_of_pos hq, List.filter_cons_of_pos (by rw [hk, hq]), List.map_cons, List.map_cons]
      refine .cons ?_ ih
      rw [hvs]; exact hva
    | false =>
      rw [List.filter_cons_of_neg (by rw [hq]; decide), List.filter_cons_of_neg (by rw [hk, hq]; decide)]
      exact ih
theorem backs_plain {gs : List G} (h : ∀ g ∈ gs, g.Ok) : ∀ p ∈ backsG gs, p.plain = true := by
  intro p hp
  unfold backsG at hp
  obtain ⟨g, hg, rfl⟩ := List.mem_map.mp hp
  have hm := List.mem_filter.mp hg
  have hk := G.keep_iff.mp hm.2
  have key : ∀ {kd size num : Nat} {val back : PV}, FG kd size num val back → ¬ kd ∈ [112, 80] → back.plain = true := by
    intro kd size num val back hg hk
    cases hg <;> first | rfl | exact absurd (by decide) hk
  exact key (h g hm.1) hk
theorem backs_len (gs : List G) : (backsG gs).length ≤ gs.length := by
  unfold backsG; rw [List.length_map]; exact List.length_filter_le _ _
theorem w_TryOk {F : Fn} {C : Cx F} {E : Value → Vals → Led → Prop} {V : Vals} {H : Led} {body : List Stmt} {h0 : ExceptHandler} {hs : List ExceptHandler} {pos : Pos} {Q : Flow → Vals → Led → Prop} (h : W C NoE (execs body C.env) V H (fun f V' H' => f = .next ∧ Q .next V' H')) :
    W C E (exec (.Try body (h0 :: hs) [] [] pos) C.env) V H Q := .mk fun s v =>
  wpAny_Try_except (wpAny_mono (h.run s v) (fun f s1 ⟨V', H', v', hf, q⟩ => by
    subst hf
    exact wpAny_execs_nil ⟨V', H', v', q⟩) fun _ _ ⟨_, _, _, x⟩ => x.elim)
theorem prs_take (ps : List Pc) (k : Nat) : prs (ps.take k) = (prs ps).take k := List.map_take
theorem prs_drop (ps : List Pc) (k : Nat) : prs (ps.drop k) = (prs ps).drop k := List.map_drop
-- part L1
/-! the law's end: cut buffers -/
noncomputable abbrev VE (box pl : Addr) (tt ts tm tc tw tj : Tok) (tail : Option Bool) (span many count : Nat) (want : List UInt8) (joined : List Nat) (q0 q1 q3 q6 q8 q9 q10 q11 q12 q13 q14 q15 q16 q17 q18 q19 q20 q23 q24 q25 q27 q29 q30 q31 q32 q33 q34 q35 q36 q37 q38 q39 q40 : Option Value) : Vals :=
  [q0, q1, some (.ref box), q3, some (.str (S (tailL tail)) tt), some (.ref pl), q6, some (.int (span : Nat) ts), q8, q9, q10, q11, q12, q13, q14, q15, q16, q17, q18, q19, q20, some (.int (many : Nat) tm), some (.int (count : Nat) tc), q23, q24, q25, some (.bytes want.toArray tw), q27, some (.str (S joined) tj), q29, q30, q31, q32, q33, q34, q35, q36, q37, q38, q39, q40]
local macro_rules | `(tactic| tbr_iter $t:term) => `(tactic| repeat (first | exact $t | apply List.Mem.tail))
theorem Loop.weaken {F : Fn} {C : Cx F} {target : Expr} {it : Value} {body : List Stmt} {V : Vals} {H : Led} {Q Q' : Flow → Vals → Led → Prop} (h : Loop C target it body V H Q') (k : ∀ f V' H', Q' f V' H' → Q f V' H') : Loop C target it body V H Q :=
  .mk fun s v => codeAny_mono (h.run s v) fun r s' hr => by
    cases r with
    | ok f => obtain ⟨V', H', v', q⟩ := hr; exact ⟨V', H', v', k _ _ _ q⟩
    | error e => exact hr
theorem prefs_drop (ps : List Pc) (k : Nat) : (prefs ps).drop k = prefs (ps.drop k) := by simp [prefs]
theorem drop_at {ps : List Pc} {k : Nat} {q : Pc} (h : q ∈ ps.drop k) : ∃ j, ps[k + j]? = some q := by
  obtain ⟨j, hj, e⟩ := List.mem_iff_getElem.mp h
  refine ⟨j, ?_⟩
  rw [← List.getElem?_drop, List.getElem?_eq_getElem hj, e]
set_option maxHeartbeats 4000000 in
theorem law_E {w : World} {low : Bool} {tail : Option Bool} {ps : List Pc} {PL : Led} {box few pl : Addr} {ob ofew : Obj} {npl : Nat} {tt ts tm tc tw tj : Tok} {want : List UInt8} {q0 q1 q3 q6 q8 q9 q10 q11 q12 q13 q14 q15 q16 q17 q18 q19 q20 q23 q24 q25 q27 q29 q30 q31 q32 q33 q34 q35 q36 q37 q38 q39 q40 : Option Value}
    (hb : Built low PL ps) (hne : ps ≠ []) (htl : tail.getD false = low) (hd : Drw box few ob ofew) (hw : want = unB (encAll low [] (allG (prs ps)))) (C : Cx fn_law) (hn : 20 ≤ C.n) (hfr : C.env.frame = some C.L) (hA : C.A.frames = some [C.env]) :
    W C NoE (execs ((bodyOf (fdAt 598)).drop 27) C.env) (VE box pl tt ts tm tc tw tj tail (sizes (allG (prs ps))) ps.length ((sizes (allG (prs ps)) + 7) / 8) want (fmtL (allF (prs ps)) ++ tailL tail) q0 q1 q3 q6 q8 q9 q10 q11 q12 q13 q14 q15 q16 q17 q18 q19 q20 q23 q24 q25 q27 q29 q30 q31 q32 q33 q34 q35 q36 q37 q38 q39 q40)
      ((box, ob) :: (few, ofew) :: (pl, listO (prefs ps) npl) :: PL) (fun f _ _ => f = .ret (.bool true)) := by
  have ok := law_ok w
  have hwl : want.length = (sizes (allG (prs ps)) + 7) / 8 := by rw [hw]; exact want_len _ _
  have hfac := Pcs.facts hb.pcs.part
  have hfew := hb.pcs.few
  have hpl : ps.length ≤ 4 := by have := hb.pcs.few; rwa [List.length_map] at this
  have hpl0 : 0 < ps.length := List.length_pos_iff.mpr hne
  have hszA : sizes (allG (prs ps)) ≤ 240 := by have := hfac.2.2.2.2.1; omega
  refine w_cons ?_
  walk_at "ww"
  refine w_range1 fun ra t1 t2 t3 => ?_
  refine w_iter_range (by omega) (by omega) (.inl (.head _)) fun it => ?_
  refine Loop.sub (H' := (it, _) :: (box, ob) :: (few, ofew) :: (pl, listO (prefs ps) npl) :: PL) (by kcf_m) ?_
  refine loop_range (fun i V H => ∃ ob q11 q12 q24 q25 q27 q29 q36 q37 q38 q39 q40, Drw box few ob ofew ∧ H = (box, ob) :: (few, ofew) :: (pl, listO (prefs ps) npl) :: PL ∧
    V = VE box pl tt ts tm tc tw tj tail (sizes (allG (prs ps))) ps.length ((sizes (allG (prs ps)) + 7) / 8) want (fmtL (allF (prs ps)) ++ tailL tail) q0 q1 q3 q6 q8 q9 q10 q11 q12 q13 q14 q15 q16 q17 q18 q19 q20 q23 q24 q25 q27 q29 q30 q31 q32 q33 q34 q35 q36 q37 q38 q39 q40)
    ⟨_, _, _, _, _, _, _, _, _, _, _, _, hd, rfl, rfl⟩ ?_ ?_
  · rintro i V H t4 hi ⟨ob, q11, q12, q24, q25, q27, q29, q36, q37, q38, q39, q40, hd, rfl, rfl⟩
    walk_at "ww"
    ktf_call 553
    walk_at "ww"
    generalize rangeItO ((i : Int) + 1) (((2 : Nat) : Int) - (i : Int) - 1) = ro
    refine w_draw hd (R := (it, ro) :: (pl, listO (prefs ps) npl) :: PL) (by kcf_m) (by omega) (by omega) fun ob2 t6 d hd0 hd2 => ?_
    walk_at "ww"
    refine cut_B .none (.int _ _) (by omega) fun t7 => ?_
    rw [cutT (k := d) rfl]
    walk_at "ww"
    ktf_call 553
    walk_at "ww"
    refine w_draw hd2 (R := (it, ro) :: (pl, listO (prefs ps) npl) :: PL) (by kcf_m) (by omega) (by omega) fun ob3 t8 d2 hd3 hd4 => ?_
    walk_at "ww"
    rename_i tz
    refine w_newTuple (fun ta => ?_) (line_le (by simp))
    refine w_iter_tup (.inl (.head _)) fun it2 o2 hit2 => ?_
    obtain ⟨D, hD⟩ : ∃ D, D = want.take d := ⟨_, rfl⟩
    have hDl : D.length ≤ 40 := by rw [hD, List.length_take]; omega
    have hDb : bitsB D = (fullB low (allG (prs ps))).take (8 * d) := by rw [hD, bitsB_take, hw, want_bits]
    rw [← hD]
    refine Loop.sub (H' := (it2, o2) :: (box, ob3) :: (few, ofew) :: (ta, tupO [.int 0 tz, .int d2 t8]) :: (it, ro) :: (pl, listO (prefs ps) npl) :: PL) (by kcf_m) ?_
    refine loop_tup (vs := [.int 0 tz, .int d2 t8]) hit2 (fun i V H => ∃ ob q11 q12 q24 q25 q27 q29 q36 q38 q39 q40, Drw box few ob ofew ∧ H = (box, ob) :: (few, ofew) :: (ta, tupO [.int 0 tz, .int d2 t8]) :: (it, ro) :: (pl, listO (prefs ps) npl) :: PL ∧
      V = VE box pl tt ts tm tc tw tj tail (sizes (allG (prs ps))) ps.length ((sizes (allG (prs ps)) + 7) / 8) want (fmtL (allF (prs ps)) ++ tailL tail) q0 q1 q3 q6 q8 q9 q10 q11 q12 q13 q14 q15 q16 q17 q18 q19 q20 q23 q24 q25 q27 q29 q30 q31 q32 q33 q34 q35 q36 (some (.bytes D.toArray t7)) q38 q39 q40)
      ?_ ⟨_, _, _, _, _, _, _, _, _, _, _, hd4, rfl, rfl⟩ ?_ ?_
    · rintro i V H ⟨ob, q11, q12, q24, q25, q27, q29, q36, q38, q39, q40, hd, rfl, rfl⟩
      exact .inl (.tail _ (.tail _ (.head _)))
    · rintro i2 y V H o hy ⟨ob, q11, q12, q24, q25, q27, q29, q36, q38, q39, q40, hd, rfl, rfl⟩
      obtain ⟨kk, tk, rfl, hkk⟩ : ∃ (kk : Nat) (tk : Tok), y = .int kk tk ∧ kk < ps.length := by
        match i2, hy with
        | 0, hy => exact ⟨0, tz, (Option.some.inj hy).symm, by omega⟩
        | 1, hy => exact ⟨d2, t8, (Option.some.inj hy).symm, by omega⟩
      clear hd0 hd2 hd3 hd4
      walk_at "ww"
      obtain ⟨p, hp⟩ : ∃ p, ps[kk]? = some p := ⟨ps[kk], List.getElem?_eq_getElem hkk⟩
      obtain ⟨hpa, hpm, hpg⟩ := hb.at_ kk p hp
      obtain ⟨off, hoff⟩ : ∃ off, off = sizes (allG (prs (ps.take kk))) := ⟨_, rfl⟩
      rw [← hoff] at hpa
      refine w_ilist (.inl (by tbr_iter (List.Mem.head _))) (.listO _ _) (i := kk) rfl (x := .ref p.a) (by unfold prefs; rw [List.getElem?_map, hp]; rfl) (by omega) ?_
      walk_at "ww"
      refine w_itup (vs := p.vs off) (.inl (by tbr_iter hpa)) (i := 1) (x := .int off p.t2) rfl rfl (by decide) ?_
      walk_at "ww"
      refine w_LCp (qs := ps.drop kk) (by rw [List.length_drop]; omega) ?_
      walk_at "ww"
      refine cut_L (op := listO (prefs ps) npl) (x := prefs ps) (.inl (by tbr_iter (List.Mem.head _))) (.listO _ _) (.int _ _) .none (by unfold prefs; rw [List.length_map]; omega) fun sl => ?_
      rw [cutF (k := kk) rfl, prefs_drop]
      refine ⟨sl, 0, rfl, .inl (.head _), fun q hq => ?_, fun ws sa hws => ?_⟩
      · obtain ⟨j, hj⟩ := drop_at hq
        exact ⟨_, .inl (by tbr_iter (hb.at_ _ _ hj).1)⟩
      have hsubp : (prs (ps.drop kk)).Sublist (prs ps) := (List.drop_sublist kk ps).map _
      have hpcs := hb.pcs.sub hsubp
      have hfacK := Pcs.facts hpcs.part
      have hlenK : (prs (ps.drop kk)).length ≤ 4 := hpcs.few
      have hneK : prs (ps.drop kk) ≠ [] := by
        intro e
        have := congrArg List.length e
        rw [List.length_map, List.length_drop] at this
        simp at this
        omega
      have hfq : (fmtL (allF (prs (ps.drop kk)))).length ≤ 80 := by have := hfacK.2.2.2.2.2.1; omega
      have htl1 : (tailL tail).length ≤ 1 := by
        cases tail with
        | none => exact Nat.zero_le _
        | some b => exact Nat.le_refl _
      obtain ⟨gK, hgK⟩ : ∃ gK, gK = (ps.drop kk).flatMap Pc.grps := ⟨_, rfl⟩
      have hgK2 : gK.map Grp.g = allG (prs (ps.drop kk)) := by
        rw [hgK]
        unfold allG prs
        rw [List.map_flatMap, List.flatMap_map]
      have hgKl : gK.length ≤ 12 := by
        have h1 := hfacK.2.2.2.1
        rw [← hgK2, List.length_map] at h1
        omega
      have hgKm : ∀ x ∈ gK, (x.a, tupO x.vs) ∈ PL := fun x hx => by
        rw [hgK] at hx
        obtain ⟨q, hq, hx⟩ := List.mem_flatMap.mp hx
        obtain ⟨j, hj⟩ := drop_at hq
        exact (hb.at_ _ _ hj).2.2 x hx
      walk_at "ww"
      refine w_join_list (.inl (.head _)) (.listO _ _) hws (by rw [fmt_flat]; omega) fun t9 => ?_
      rw [fmt_flat]
      walk_at "ww"
      refine w_add_S (by omega) fun t10 => ?_
      walk_at "ww"
      refine w_drop' (H' := (it2, o) :: (box, ob) :: (few, ofew) :: (ta, tupO [.int 0 tz, .int d2 t8]) :: (it, ro) :: (pl, listO (prefs ps) npl) :: PL) (by kcf_m) ?_
      obtain ⟨R0, hR0⟩ : ∃ R0, R0 = (it2, o) :: (box, ob) :: (few, ofew) :: (ta, tupO [.int 0 tz, .int d2 t8]) :: (it, ro) :: (pl, listO (prefs ps) npl) :: PL := ⟨_, rfl⟩
      have hR0pl : (pl, listO (prefs ps) npl) ∈ R0 := by rw [hR0]; tbr_iter (List.Mem.head _)
      have hR0PL : ∀ x ∈ PL, x ∈ R0 := fun x hx => by rw [hR0]; tbr_iter hx
      rw [← hR0]
      refine w_newList (fun gl => ?_) (line_le (by simp))
      walk_at "ww"
      refine cut_L (op := listO (prefs ps) npl) (x := prefs ps) (.inl (.tail _ hR0pl)) (.listO _ _) (.int _ _) .none (by unfold prefs; rw [List.length_map]; omega) fun sl2 => ?_
      rw [cutF (k := kk) rfl, prefs_drop]
      refine w_iter_list (.inl (.head _)) (.listO _ _) fun it3 o3 hit3 => ?_
      refine Loop.sub (H' := (it3, o3) :: (gl, listO [] 0) :: (sl2, listO (prefs (ps.drop kk)) 0) :: R0) (by kcf_m) ?_
      refine loop_list hit3 (.listO (prefs (ps.drop kk)) 0) (fun i V H => ∃ n q27, H = (gl, listO (refs (((ps.drop kk).take i).flatMap Pc.grps)) n) :: (sl2, listO (prefs (ps.drop kk)) 0) :: R0 ∧
        V = VE box pl tt ts tm tc tw tj tail (sizes (allG (prs ps))) ps.length ((sizes (allG (prs ps)) + 7) / 8) want (fmtL (allF (prs ps)) ++ tailL tail) q0 q1 q3 q6 q8 q9 q10 (some (.int off p.t2)) (some (.int kk tk)) q13 q14 q15 q16 q17 q18 q19 q20 q23 q24 q25 q27 q29 q30 q31 q32 q33 q34 q35 q36 (some (.bytes D.toArray t7)) (some (.str (S (fmtL (allF (prs (ps.drop kk))) ++ tailL tail)) t10)) (some (.ref gl)) q40)
        ?_ ⟨0, _, rfl, rfl⟩ ?_ ?_
      · rintro i V H ⟨n, q27, rfl, rfl⟩
        exact .inl (.tail _ (.head _))
      · rintro i3 y3 V H o4 hy3 ⟨n, q27, rfl, rfl⟩
        obtain ⟨q, hq, rfl⟩ : ∃ q, (ps.drop kk)[i3]? = some q ∧ y3 = .ref q.a := by
          unfold prefs at hy3
          rw [List.getElem?_map] at hy3
          cases e : (ps.drop kk)[i3]? with
          | none => rw [e] at hy3; cases hy3
          | some x => rw [e] at hy3; cases hy3; exact ⟨x, rfl, rfl⟩
        obtain ⟨j, hj⟩ := drop_at (List.mem_of_getElem? hq)
        obtain ⟨hqa, hqm, hqg⟩ := hb.at_ _ _ hj
        walk_at "ww"
        refine w_itup (vs := q.vs _) (.inl (by tbr_iter (hR0PL _ hqa))) (i := 2) (x := .ref q.ma) rfl rfl (by decide) ?_
        walk_at "ww"
        have hql : (refs (((ps.drop kk).take i3).flatMap Pc.grps)).length + (refs q.grps).length ≤ 1000 := by
          have h1 : (((ps.drop kk).take i3).flatMap Pc.grps).length ≤ gK.length := by
            have e : gK = ((ps.drop kk).take i3).flatMap Pc.grps ++ ((ps.drop kk).drop i3).flatMap Pc.grps := by rw [← List.flatMap_append, List.take_append_drop, hgK]
            rw [e, List.length_append]; omega
          have h2 : q.grps.length ≤ 3 := by
            have := (hpcs.part q.pair (List.mem_map_of_mem (List.mem_of_getElem? hq))).2.2.1
            rwa [List.length_map] at this
          unfold refs
          rw [List.length_map, List.length_map]; omega
        refine w_extend (ws := refs q.grps) (m := q.n) (.inl (by tbr_iter (hR0PL _ hqm))) (fun o' => .tail .head) (by omega) fun n' => ?_
        walk_at "ww"
        refine ⟨_, .rfl, n', _, ?_, rfl⟩
        rw [List.take_add_one, hq, List.flatMap_append]
        show _ = (gl, listO (refs (_ ++ [q].flatMap Pc.grps)) n') :: _
        rw [show [q].flatMap Pc.grps = q.grps by simp]
        unfold refs
        rw [List.map_append]
      · rintro V H ⟨n, q27, rfl, rfl⟩
        have e : (prefs (ps.drop kk)).length = (ps.drop kk).length := by unfold prefs; rw [List.length_map]
        rw [e, List.take_length, ← hgK]
        walk_at "ww"
        refine w_newList (fun wl => ?_) (line_le (by simp))
        walk_at "ww"
        refine w_iter_list (.inl (.tail _ (.head _))) (.listO _ _) fun it4 o4 hit4 => ?_
        refine Loop.sub (H' := (it4, o4) :: (wl, listO [] 0) :: (gl, listO (refs gK) n) :: R0) (by kcf_m) ?_
        refine Loop.weaken (Q' := fun f V H => f = .next ∧ ∃ (wg : List Grp) (n2 : Nat) (q24 q25 : Option Value), wg.map Grp.g = fitG (8 * D.length) off (gK.map Grp.g) ∧ (∀ x ∈ wg, x ∈ gK) ∧ wg.length ≤ 12 ∧ SubP ((wl, listO (refs wg) n2) :: (gl, listO (refs gK) n) :: R0) H ∧
          V = VE box pl tt ts tm tc tw tj tail (sizes (allG (prs ps))) ps.length ((sizes (allG (prs ps)) + 7) / 8) want (fmtL (allF (prs ps)) ++ tailL tail) q0 q1 q3 q6 q8 q9 q10 (some (.int off p.t2)) (some (.int kk tk)) q13 q14 q15 q16 q17 q18 q19 q20 q23 q24 q25 q27 q29 q30 q31 q32 q33 q34 q35 q36 (some (.bytes D.toArray t7)) (some (.str (S (fmtL (allF (prs (ps.drop kk))) ++ tailL tail)) t10)) (some (.ref gl)) (some (.ref wl))) ?_ ?_
        refine loop_list hit4 (.listO (refs gK) n) (fun i V H => ∃ n2 q25 ta, H = (wl, listO (refs (gK.take i)) n2) :: (gl, listO (refs gK) n) :: R0 ∧
          fitG (8 * D.length) off (gK.map Grp.g) = (gK.take i).map Grp.g ++ fitG (8 * D.length) (off + sizes ((gK.take i).map Grp.g)) ((gK.drop i).map Grp.g) ∧
          V = VE box pl tt ts tm tc tw tj tail (sizes (allG (prs ps))) ps.length ((sizes (allG (prs ps)) + 7) / 8) want (fmtL (allF (prs ps)) ++ tailL tail) q0 q1 q3 q6 q8 q9 q10 (some (.int off p.t2)) (some (.int kk tk)) q13 q14 q15 q16 q17 q18 q19 q20 q23 (some (.int ((off + sizes ((gK.take i).map Grp.g) : Nat) : Int) ta)) q25 q27 q29 q30 q31 q32 q33 q34 q35 q36 (some (.bytes D.toArray t7)) (some (.str (S (fmtL (allF (prs (ps.drop kk))) ++ tailL tail)) t10)) (some (.ref gl)) (some (.ref wl)))
          ?_ ⟨0, q25, p.t2, rfl, by simp [sizes], by simp [sizes]⟩ ?_ ?_
        · rintro i V H ⟨n2, q25, ta, rfl, _, rfl⟩
          exact .inl (.tail _ (.head _))
        · rintro i5 y5 V H o5 hy5 ⟨n2, q25, ta, rfl, hfit, rfl⟩
          obtain ⟨x, hx, rfl⟩ : ∃ x, gK[i5]? = some x ∧ y5 = .ref x.a := by
            unfold refs at hy5
            rw [List.getElem?_map] at hy5
            cases e : gK[i5]? with
            | none => rw [e] at hy5; cases hy5
            | some x => rw [e] at hy5; cases hy5; exact ⟨x, rfl, rfl⟩
          obtain ⟨k1, k2, k3, k4, va, vb, hvs, hva, hvb⟩ := x.gv.ex
          walk_at "ww"
          refine w_itup (vs := x.vs) (.inl (by tbr_iter (hR0PL _ (hgKm x (List.mem_of_getElem? hx))))) (i := 2) (x := .int x.g.size k3) rfl (by rw [hvs]; rfl) (by decide) ?_
          walk_at "ww"
          rename_i kt
          refine w_If ?_
          walk_at "ww"
          refine w_len_B (by omega) fun t12 => ?_
          refine w_mul_int (m := 4) (n := 12) (by decide) (by rw [Int.natAbs_natCast]; omega) (by decide) fun t13 => ?_
          walk_at "ww"
          have hdrop : (gK.drop i5).map Grp.g = x.g :: (gK.drop (i5 + 1)).map Grp.g := by
            obtain ⟨hlt, he⟩ := List.getElem?_eq_some_iff.mp hx
            rw [List.drop_eq_getElem_cons hlt, he, List.map_cons]
          have htk : (gK.take (i5 + 1)) = gK.take i5 ++ [x] := by rw [List.take_add_one, hx]; rfl
          rw [hdrop] at hfit
          refine ⟨fun h => ?_, fun h => ?_⟩
          · have hno : ¬ (off + sizes ((gK.take i5).map Grp.g) + x.g.size ≤ 8 * D.length) := by have := of_decide_eq_true h; omega
            have hf0 : fitG (8 * D.length) (off + sizes ((gK.take i5).map Grp.g)) (x.g :: (gK.drop (i5 + 1)).map Grp.g) = [] := if_neg hno
            rw [hf0, List.append_nil] at hfit
            walk_at "ww"
            refine w_Break ?_
            walk_at "ww"
            refine ⟨rfl, gK.take i5, n2, _, _, hfit.symm, fun y hy => List.mem_of_mem_take hy, by rw [List.length_take]; omega, by kcf_m, rfl⟩
          · have hyes : off + sizes ((gK.take i5).map Grp.g) + x.g.size ≤ 8 * D.length := by have := of_decide_eq_false h; omega
            have hf1 : fitG (8 * D.length) (off + sizes ((gK.take i5).map Grp.g)) (x.g :: (gK.drop (i5 + 1)).map Grp.g) = x.g :: fitG (8 * D.length) (off + sizes ((gK.take i5).map Grp.g) + x.g.size) ((gK.drop (i5 + 1)).map Grp.g) := if_pos hyes
            rw [hf1] at hfit
            walk_at "ww"
            refine w_append (.tail .head) (by unfold refs; rw [List.length_map, List.length_take]; omega) ?_
            walk_at "ww"
            have hs2 : sizes ((gK.take (i5 + 1)).map Grp.g) = sizes ((gK.take i5).map Grp.g) + x.g.size := by
              rw [htk, List.map_append, sizes_append]; simp [sizes]
            refine ⟨_, .rfl, n2 + 1, some (.ref x.a), kt, ?_, ?_, ?_⟩
            · rw [htk]; unfold refs; rw [List.map_append]; rfl
            · rw [hfit, hs2, htk, List.map_append, ← Nat.add_assoc]; simp
            · rw [hs2, ← Nat.add_assoc, show ((off + sizes ((gK.take i5).map Grp.g) + x.g.size : Nat) : Int) = ((off + sizes ((gK.take i5).map Grp.g) : Nat) : Int) + (x.g.size : Int) by omega]
        · rintro V H ⟨n2, q25, ta, rfl, hfit, rfl⟩
          have e2 : (refs gK).length = gK.length := by unfold refs; rw [List.length_map]
          rw [e2] at hfit ⊢
          rw [List.take_length, List.drop_length, List.map_nil] at hfit
          rw [List.take_length]
          exact ⟨rfl, gK, n2, _, _, by rw [hfit]; exact (List.append_nil _).symm, fun y hy => hy, by omega, .rfl, rfl⟩
        · rintro f V H ⟨rfl, wg, n2, q24, q25, hwg, hwk, hwl2, hsub, rfl⟩
          refine (w_drop' hsub ?_ : W C NoE _ _ H _)
          walk_at "ww"
          ktf_call 539
          refine w_cwK ?_
          walk_at "ww"
          have hcut : allG (prs ps) = allG (prs (ps.take kk)) ++ allG (prs (ps.drop kk)) ++ [] := by rw [List.append_nil, prs_take, prs_drop]; exact allG_cut _ _
          have hfacT := Pcs.facts (hb.pcs.sub ((List.take_sublist kk ps).map Pc.pair)).part
          have hm8 : low = true → sizes (allG (prs (ps.take kk))) % 8 = 0 := hfacT.2.2.2.2.2.2
          obtain ⟨bits, hbits⟩ : ∃ bits, bits = (bitsB D).drop off := ⟨_, rfl⟩
          have hFit : Fits (tail.getD false) bits 0 (allG (prs (ps.drop kk))) := by
            rw [hbits, hDb, htl, hoff, hcut]
            exact fits_suffix hm8 hfacK.2.1
          have hbl : bits.length = 8 * D.length - off := by rw [hbits, List.length_drop, bitsB_len]
          have hfg : fitG bits.length 0 (allG (prs (ps.drop kk))) = wg.map Grp.g := by
            rw [hbl, fitG_off _ 0 (fun g hg => (hfacK.2.1 g hg).pos.1), hwg, hgK2]; rfl
          have hfmt := hpcs.fmt hneK
          have hwok : ∀ g ∈ wg.map Grp.g, g.Ok := fun g hg => by
            obtain ⟨x, hx, rfl⟩ := List.mem_map.mp hg
            exact hfacK.2.1 _ (by rw [← hgK2]; exact List.mem_map_of_mem (hwk x hx))
          refine w_sp (P := []) (m_ufT_sp hfmt (by omega) hbits hFit) (by omega) .rfl (fun _ _ => trivial) ?_
          rintro v P' ⟨ga, gvs, rfl, rfl, hgv⟩
          rw [hfg] at hgv
          walk_at "ww"
          refine w_If ?_
          walk_at "ww"
          ktf_call 588
          walk_at "ww"
          ktf_call 593
          walk_at "ww"
          refine w_sp (P := []) (values_sp (gs := wg) (c := 5) (.listO (refs wg) n2) (by decide) (by omega)) (by omega) .rfl (fun hp k => ⟨k _ _ (.inl (.tail _ (.head _))), fun x hx => k _ _ (.inl (.tail _ (.tail _ (.tail _ (hR0PL _ (hgKm x (hwk x hx)))))))⟩) ?_
          rintro v P' ⟨va, rfl, rfl⟩
          walk_at "ww"
          refine w_spz (alike_sp hgv (col_backs wg) (backs_plain hwok) (by have := backs_len (wg.map Grp.g); rw [List.length_map] at this; omega)) (by omega) (fun hp k => ⟨k _ _ (.inl (.tail _ (.head _))), k _ _ (.inl (.head _))⟩) (fun _ _ ⟨_, e⟩ => e) ?_
          rintro v P' ⟨rfl, _⟩
          walk_at "ww"
          refine ⟨(fun h => nomatch h), fun _ => ?_⟩
          walk_at "ww"
          refine w_drop' (H' := (gl, listO (refs gK) n) :: R0) (by exact .skip (.skip (.skip .rfl))) ?_
          have hspan : sizes (allG (prs ps)) = off + sizes (allG (prs (ps.drop kk))) := by rw [hoff]; conv => lhs; rw [hcut, List.append_nil, sizes_append]
          have hK0 : 0 < sizes (allG (prs (ps.drop kk))) := by
            have h1 := congrArg List.length hfmt.spec
            rw [specOf_len] at h1
            have h2 : allG (prs (ps.drop kk)) ≠ [] := by
              intro e
              rw [e] at h1
              cases hq : allF (prs (ps.drop kk)) with
              | nil => exact hfmt.ne hq
              | cons f r => rw [hq] at h1; simp [specGo] at h1
            obtain ⟨g, r, hq⟩ := List.exists_cons_of_ne_nil h2
            have := (hfacK.2.1 g (by rw [hq]; exact .head _)).pos.1
            rw [hq, sizes_cons]; omega
          by_cases hlt : 8 * D.length < sizes (allG (prs ps))
          · refine' w_TryErr ok hfr hA ?w1 ?w2 ?w3
            case w2 => tb_start
            · refine wr_cons (wr_Assign1 (by kernel_rfl) (by kernel_rfl) (wr_Call ?_))
              ktf_call 539
              refine wr_cw ?_
              walk_at "ww"
              exact wr_callTop ok (m_uf_rz hfmt (by omega) hbits (by omega)) (by omega) hfr hA (fun _ _ => trivial)
            · walk_at "ww"
              refine w_If ?_
              walk_at "ww"
              refine w_len_B (by omega) fun t14 => ?_
              refine w_mul_int (m := 4) (n := 12) (by decide) (by rw [Int.natAbs_natCast]; omega) (by decide) fun t15 => ?_
              walk_at "ww"
              refine ⟨fun _ => ?_, fun h => absurd (of_decide_eq_false h) (by omega)⟩
              walk_at "ww"
              refine w_If ?_
              walk_at "ww"
              refine ⟨(fun h => nomatch h), fun _ => ?_⟩
              walk_at "ww"
              rw [hR0]
              exact ⟨(box, ob) :: (few, ofew) :: (ta, tupO [.int 0 tz, .int d2 t8]) :: (it, ro) :: (pl, listO (prefs ps) npl) :: PL, .skip .rfl, ob, _, _, _, _, _, _, _, _, _, _, hd, rfl, rfl⟩
          · refine w_TryOk ?_
            refine w_cons ?_
            walk_at "ww"
            ktf_call 539
            walk_at "ww"
            refine w_sp (P := []) (m_uf_sp hfmt (by omega) hbits hFit (by omega)) (by omega) .rfl (fun _ _ => trivial) ?_
            rintro v P' ⟨ga2, gvs2, rfl, rfl, hgv2⟩
            rw [fitG_all _ 0 (by omega), ← hgK2] at hgv2
            walk_at "ww"
            refine ⟨rfl, ?_⟩
            walk_at "ww"
            refine w_If ?_
            walk_at "ww"
            refine w_len_B (by omega) fun t14 => ?_
            refine w_mul_int (m := 4) (n := 12) (by decide) (by rw [Int.natAbs_natCast]; omega) (by decide) fun t15 => ?_
            walk_at "ww"
            refine ⟨fun h => absurd (of_decide_eq_true h) (by omega), fun _ => ?_⟩
            walk_at "ww"
            refine w_If ?_
            walk_at "ww"
            ktf_call 588
            walk_at "ww"
            ktf_call 593
            walk_at "ww"
            refine w_sp (P := []) (values_sp (gs := gK) (c := 5) (.listO (refs gK) n) (by decide) (by omega)) (by omega) .rfl (fun hp k => ⟨k _ _ (.inl (.tail _ (.head _))), fun x hx => k _ _ (.inl (.tail _ (.tail _ (hR0PL _ (hgKm x hx)))))⟩) ?_
            rintro v P' ⟨va2, rfl, rfl⟩
            walk_at "ww"
            have hKok : ∀ g ∈ gK.map Grp.g, g.Ok := by rw [hgK2]; exact hfacK.2.1
            refine w_spz (alike_sp hgv2 (col_backs gK) (backs_plain hKok) (by have := backs_len (gK.map Grp.g); rw [List.length_map] at this; omega)) (by omega) (fun hp k => ⟨k _ _ (.inl (.tail _ (.head _))), k _ _ (.inl (.head _))⟩) (fun _ _ ⟨_, e⟩ => e) ?_
            rintro v P' ⟨rfl, _⟩
            walk_at "ww"
            refine ⟨(fun h => nomatch h), fun _ => ?_⟩
            walk_at "ww"
            rw [hR0]
            exact ⟨(box, ob) :: (few, ofew) :: (ta, tupO [.int 0 tz, .int d2 t8]) :: (it, ro) :: (pl, listO (prefs ps) npl) :: PL, .skip (.skip (.skip .rfl)), ob, _, _, _, _, _, _, _, _, _, _, hd, rfl, rfl⟩
    · rintro V H ⟨ob, q11, q12, q24, q25, q27, q29, q36, q38, q39, q40, hd, rfl, rfl⟩
      walk_at "ww"
      exact ⟨(box, ob) :: (few, ofew) :: (pl, listO (prefs ps) npl) :: PL, by kcf_m, ob, _, _, _, _, _, _, _, _, _, _, _, hd, rfl, rfl⟩
  · rintro V H ⟨ob, q11, q12, q24, q25, q27, q29, q36, q37, q38, q39, q40, hd, rfl, rfl⟩
    walk_at "ww"
    ktf_call 546
    walk_at "ww"
    refine w_spz (m_calc_sp (hb.pcs.fmt (by simpa using hne))) (by omega) (fun _ _ => trivial) (fun _ _ ⟨_, _, e⟩ => e) ?_
    rintro v P' ⟨t5, rfl, _⟩
    walk_at "ww"
    simp
-- part L2
/-! the law: reading piece by piece -/
theorem w_add_tup2 {F : Fn} {C : Cx F} {E : Value → Vals → Led → Prop} {V : Vals} {H : Led} {Q : Value → Vals → Led → Prop} {a b : Addr} {vs ws : List Value} (ha : Has C H a (tupO vs)) (hb : Has C H b (tupO ws)) (hz : vs.length + ws.length ≤ 1000000) (h1 : ws = [] → Q (.ref a) V H) (h2 : vs = [] → Q (.ref b) V H) (h : ∀ c, Q (.ref c) V ((c, tupO (vs ++ ws)) :: H)) :
    W C E (binaryOp .Add (.ref a) (.ref b)) V H Q := .mk fun s v =>
  add_tuples v.fr v.nw ⟨_, ha.at v, rfl, 0, rfl⟩ ⟨_, hb.at v, rfl, 0, rfl⟩ (fun e => ⟨V, H, v, h2 (by simpa using e)⟩) (fun _ e => ⟨V, H, v, h1 (by simpa using e)⟩) (fun _ _ h' F' N' => ⟨V, _, ⟨F', N', (v.push (o := tupO (vs ++ ws)) rfl).nd, v.gens, v.os⟩, h _⟩) (line_le (by omega))
theorem backsG_append (a b : List G) : backsG (a ++ b) = backsG a ++ backsG b := by unfold backsG; rw [List.filter_append, List.map_append]
theorem PVs.append {a b : List PV} {vs ws : List Value} (h : PVs a vs) (k : PVs b ws) : PVs (a ++ b) (vs ++ ws) := by
  induction h with
  | nil => exact k
  | cons x _ ih => exact .cons x ih
set_option maxHeartbeats 4000000 in
theorem law_D {w : World} {low : Bool} {tail : Option Bool} {ps : List Pc} {PL : Led} {box few pl pn : Addr} {ob ofew : Obj} {npl npn : Nat} {tt ts tm tc tw tj : Tok} {want : List UInt8} {q0 q1 q3 q8 q9 q10 q11 q12 q13 q14 q15 q16 q17 q18 q19 q20 q23 q24 q25 q27 q29 q30 q31 q32 q33 q34 q35 q36 q37 q38 q39 q40 : Option Value} {gA : List Grp}
    (hb : Built low PL ps) (hne : ps ≠ []) (htl : tail.getD false = low) (hd : Drw box few ob ofew) (hw : want = unB (encAll low [] (allG (prs ps)))) (hgA : gA = ps.flatMap Pc.grps) (C : Cx fn_law) (hn : 20 ≤ C.n) (hfr : C.env.frame = some C.L) (hA : C.A.frames = some [C.env]) :
    W C NoE (execs ((bodyOf (fdAt 598)).drop 23) C.env) (VE box pl tt ts tm tc tw tj tail (sizes (allG (prs ps))) ps.length ((sizes (allG (prs ps)) + 7) / 8) want (fmtL (allF (prs ps)) ++ tailL tail) q0 q1 q3 (some (.ref pn)) q8 q9 q10 q11 q12 q13 q14 q15 q16 q17 q18 q19 q20 q23 q24 q25 q27 q29 q30 q31 q32 q33 q34 q35 q36 q37 q38 q39 q40)
      ((box, ob) :: (few, ofew) :: (pl, listO (prefs ps) npl) :: (pn, listO (refs gA) npn) :: PL) (fun f _ _ => f = .ret (.bool true)) := by
  have ok := law_ok w
  have hwl : want.length = (sizes (allG (prs ps)) + 7) / 8 := by rw [hw]; exact want_len _ _
  have hfac := Pcs.facts hb.pcs.part
  have hpl : ps.length ≤ 4 := by have := hb.pcs.few; rwa [List.length_map] at this
  have hpl2 : (prs ps).length ≤ 4 := hb.pcs.few
  have hszA : sizes (allG (prs ps)) ≤ 240 := by have := hfac.2.2.2.2.1; omega
  have hgA2 : gA.map Grp.g = allG (prs ps) := by
    rw [hgA]; unfold allG prs; rw [List.map_flatMap, List.flatMap_map]
  have hgl : gA.length ≤ 12 := by
    have h1 := hfac.2.2.2.1
    rw [← hgA2, List.length_map] at h1
    omega
  have hgm : ∀ x ∈ gA, (x.a, tupO x.vs) ∈ PL := fun x hx => by
    rw [hgA] at hx
    obtain ⟨q, hq, hx⟩ := List.mem_flatMap.mp hx
    obtain ⟨j, hj, e⟩ := List.mem_iff_getElem.mp hq
    exact (hb.at_ j q (by rw [List.getElem?_eq_getElem hj, e])).2.2 x hx
  have htl1 : (tailL tail).length ≤ 1 := by
    cases tail with
    | none => exact Nat.zero_le _
    | some b => exact Nat.le_refl _
  have hAok : ∀ g ∈ gA.map Grp.g, g.Ok := by rw [hgA2]; exact hfac.2.1
  refine w_cons ?_
  walk_at "ww"
  refine w_newTuple (fun pa => ?_) (line_le (by simp))
  walk_at "ww"
  refine w_iter_list (.inl (.tail _ (.tail _ (.tail _ (.head _))))) (.listO _ _) fun it o hit => ?_
  refine Loop.sub (H' := (it, o) :: (pa, tupO []) :: (box, ob) :: (few, ofew) :: (pl, listO (prefs ps) npl) :: (pn, listO (refs gA) npn) :: PL) (by kcf_m) ?_
  refine loop_list hit (.listO (prefs ps) npl) (fun i V H => ∃ pa vs q9 q10 q11, PVs (backsG (allG (prs (ps.take i)))) vs ∧ H = (pa, tupO vs) :: (box, ob) :: (few, ofew) :: (pl, listO (prefs ps) npl) :: (pn, listO (refs gA) npn) :: PL ∧
    V = VE box pl tt ts tm tc tw tj tail (sizes (allG (prs ps))) ps.length ((sizes (allG (prs ps)) + 7) / 8) want (fmtL (allF (prs ps)) ++ tailL tail) q0 q1 q3 (some (.ref pn)) q8 q9 q10 q11 q12 q13 q14 q15 q16 q17 q18 q19 q20 q23 q24 q25 q27 q29 q30 q31 q32 q33 (some (.ref pa)) q35 q36 q37 q38 q39 q40)
    ?_ ⟨pa, [], _, _, _, .nil, rfl, rfl⟩ ?_ ?_
  · rintro i V H ⟨pa, vs, q9, q10, q11, hvs, rfl, rfl⟩
    exact .inl (.tail _ (.tail _ (.tail _ (.head _))))
  · rintro i y V H o2 hy ⟨pa, vs, q9, q10, q11, hvs, rfl, rfl⟩
    obtain ⟨p, hp, rfl⟩ : ∃ p, ps[i]? = some p ∧ y = .ref p.a := by
      unfold prefs at hy
      rw [List.getElem?_map] at hy
      cases e : ps[i]? with
      | none => rw [e] at hy; cases hy
      | some x => rw [e] at hy; cases hy; exact ⟨x, rfl, rfl⟩
    obtain ⟨hpa, hpm, hpg⟩ := hb.at_ i p hp
    obtain ⟨off, hoff⟩ : ∃ off, off = sizes (allG (prs (ps.take i))) := ⟨_, rfl⟩
    rw [← hoff] at hpa
    refine w_assign_Tup (vs := p.vs off) (.inl (by tbr_iter hpa)) (by kernel_rfl) (by kernel_rfl) ?_
    rw [show p.vs off = [.str (S (fmtL p.fs)) p.t1, .int off p.t2, .ref p.ma] from rfl]
    walk_at "ww"
    ktf_call 539
    walk_at "ww"
    have hpp : (prs ps)[i]? = some p.pair := by rw [List.getElem?_map, hp]; rfl
    have hpin : p.pair ∈ prs ps := List.mem_of_getElem? hpp
    have hfmt : FmtOk p.fs p.gs := hb.pcs.one hpin
    have hpart := hb.pcs.part _ hpin
    have hfl : (fmtL p.fs).length ≤ 20 := hpart.2.2.2.2.1
    have hfacT := Pcs.facts (hb.pcs.sub ((List.take_sublist i ps).map Pc.pair)).part
    have hm8 : low = true → sizes (allG (prs (ps.take i))) % 8 = 0 := hfacT.2.2.2.2.2.2
    have hcut : allG (prs ps) = allG (prs (ps.take i)) ++ p.gs ++ allG ((prs ps).drop (i + 1)) := by rw [prs_take]; exact allG_at hpp
    have hsz : sizes (allG (prs ps)) = off + sizes p.gs + sizes (allG ((prs ps).drop (i + 1))) := by
      conv => lhs; rw [hcut, sizes_append, sizes_append, ← hoff]
    obtain ⟨bits, hbits⟩ : ∃ bits, bits = (bitsB want).drop off := ⟨_, rfl⟩
    have hwb : bitsB want = fullB low (allG (prs ps)) := by rw [hw, want_bits]
    have hbl : bits.length = 8 * want.length - off := by rw [hbits, List.length_drop, bitsB_len]
    have hFit : Fits (tail.getD false) bits 0 p.gs := by
      have := fits_suffix (low := low) (pre := allG (prs (ps.take i))) (gs := p.gs) (post := allG ((prs ps).drop (i + 1))) (m := (fullB low (allG (prs ps))).length) hm8 hfmt.grp
      rw [← hcut, List.take_length, ← hwb, ← hoff, ← hbits] at this
      rw [htl]; exact this
    refine w_add_S (by omega) fun t4 => ?_
    walk_at "ww"
    refine w_sp (P := []) (m_uf_sp hfmt (by omega) hbits hFit (by omega)) (by omega) .rfl (fun _ _ => trivial) ?_
    rintro v P' ⟨ga, gvs, rfl, rfl, hgv⟩
    rw [fitG_all _ 0 (by omega)] at hgv
    have hnew : PVs (backsG (allG (prs (ps.take (i + 1))))) (vs ++ gvs) := by
      have e : allG (prs (ps.take (i + 1))) = allG (prs (ps.take i)) ++ p.gs := by
        rw [List.take_add_one, hp]
        unfold allG prs
        rw [List.map_append, List.flatMap_append]
        simp
      rw [e, backsG_append]
      exact hvs.append hgv
    have hvl := hvs.len
    have hgvl := hgv.len
    have hb1 := backs_len (allG (prs (ps.take i)))
    have hb2 := backs_len p.gs
    have hl0 : (prs (ps.take i)).length ≤ 4 := by rw [List.length_map, List.length_take]; omega
    have hl1 : (allG (prs (ps.take i))).length ≤ 12 := Nat.le_trans hfacT.2.2.2.1 (by have h : (List.map Pc.pair (ps.take i)).length ≤ 4 := hl0; exact Nat.mul_le_mul_left 3 h)
    have hl2 : p.gs.length ≤ 3 := hpart.2.2.1
    walk_at "ww"
    refine w_add_tup2 (.inl (.tail _ (.tail _ (.head _)))) (.inl (.head _)) (by omega) (fun e => ?_) (fun e => ?_) fun c => ?_
    · walk_at "ww"
      exact ⟨(pa, tupO vs) :: (box, ob) :: (few, ofew) :: (pl, listO (prefs ps) npl) :: (pn, listO (refs gA) npn) :: PL, by exact .take (.there .here) (.skip .rfl), pa, vs, _, _, _, by rw [e, List.append_nil] at hnew; exact hnew, rfl, rfl⟩
    · walk_at "ww"
      exact ⟨(ga, tupO gvs) :: (box, ob) :: (few, ofew) :: (pl, listO (prefs ps) npl) :: (pn, listO (refs gA) npn) :: PL, by exact .take (.there .here) (.take .here (.skip .rfl)), ga, gvs, _, _, _, by rw [e, List.nil_append] at hnew; exact hnew, rfl, rfl⟩
    · walk_at "ww"
      exact ⟨(c, tupO (vs ++ gvs)) :: (box, ob) :: (few, ofew) :: (pl, listO (prefs ps) npl) :: (pn, listO (refs gA) npn) :: PL, by exact .take (.there (.there .here)) (.take .here (.skip (.skip .rfl))), c, vs ++ gvs, _, _, _, hnew, rfl, rfl⟩
  · rintro V H ⟨pa, vs, q9, q10, q11, hvs, rfl, rfl⟩
    have e : (prefs ps).length = ps.length := by unfold prefs; rw [List.length_map]
    rw [e, List.take_length, ← hgA2] at hvs
    walk_at "ww"
    ktf_call 593
    walk_at "ww"
    refine w_sp (P := []) (values_sp (gs := gA) (c := 5) (.listO (refs gA) npn) (by decide) (by omega)) (by omega) .rfl (fun hp k => ⟨k _ _ (.inl (by tbr_iter (List.Mem.head _))), fun x hx => k _ _ (.inl (by tbr_iter (hgm x hx)))⟩) ?_
    rintro v P' ⟨ba, rfl, rfl⟩
    walk_at "ww"
    refine w_If ?_
    walk_at "ww"
    ktf_call 588
    walk_at "ww"
    refine w_spz (alike_sp hvs (col_backs gA) (backs_plain hAok) (by have := backs_len (gA.map Grp.g); rw [List.length_map] at this; omega)) (by omega) (fun hp k => ⟨k _ _ (.inl (.tail _ (.head _))), k _ _ (.inl (.head _))⟩) (fun _ _ ⟨_, e⟩ => e) ?_
    rintro v P' ⟨rfl, _⟩
    walk_at "ww"
    refine ⟨(fun h => nomatch h), fun _ => ?_⟩
    walk_at "ww"
    ktf_call 588
    walk_at "ww"
    ktf_call 524
    walk_at "ww"
    have hfmtA := hb.pcs.fmt (by simpa using hne)
    have hwb : bitsB want = fullB low (allG (prs ps)) := by rw [hw, want_bits]
    obtain ⟨bits, hbits⟩ : ∃ bits, bits = bitsB want := ⟨_, rfl⟩
    have hbl : bits.length = 8 * want.length := by rw [hbits, bitsB_len]
    have hFit : Fits (tail.getD false) bits 0 (allG (prs ps)) := by
      have := fits_suffix (low := low) (pre := []) (gs := allG (prs ps)) (post := []) (m := (fullB low (allG (prs ps))).length) (fun _ => rfl) hfac.2.1
      rw [List.nil_append, List.append_nil, List.take_length, ← hwb, ← hbits] at this
      rw [htl]; exact this
    refine w_sp (P := []) (m_unpack_sp hfmtA (by omega) hbits hFit (by omega)) (by omega) .rfl (fun _ _ => trivial) ?_
    rintro v P' ⟨ga, gvs, rfl, rfl, hgv⟩
    rw [fitG_all _ 0 (by omega), ← hgA2] at hgv
    walk_at "ww"
    refine w_spz (alike_sp hgv (col_backs gA) (backs_plain hAok) (by have := backs_len (gA.map Grp.g); rw [List.length_map] at this; omega)) (by omega) (fun hp k => ⟨k _ _ (.inl (.head _)), k _ _ (.inl (.tail _ (.head _)))⟩) (fun _ _ ⟨_, e⟩ => e) ?_
    rintro v P' ⟨rfl, _⟩
    walk_at "ww"
    refine ⟨(fun h => nomatch h), fun _ => ?_⟩
    refine w_isTrue_or_nil ?_
    refine ⟨(fun h => nomatch h), fun _ => ?_⟩
    refine w_nil (seq_next ?_)
    refine w_drop' (H' := (box, ob) :: (few, ofew) :: (pl, listO (prefs ps) npl) :: PL) ?_ ?_
    · exact .skip (.skip (.skip (.take .here (.take .here (.take .here (.skip .rfl))))))
    · exact law_E (w := w) hb hne htl hd hw C hn hfr hA
-- part L3
/-! the law: writing piece by piece -/
noncomputable def idxN (many start d j : Nat) : Nat := (((start : Int) + (1 - 2 * (d : Int)) * (j : Int)) % (many : Int)).toNat
theorem idx_perm : ∀ many, many < 5 → ∀ start, start < many → ∀ d, d < 2 → ((List.range many).map (idxN many start d)).Perm (List.range many) := by decide +kernel
theorem idx_lt {many start d j : Nat} (h : 0 < many) : (((start : Int) + (1 - 2 * (d : Int)) * (j : Int)) % (many : Int)) = (idxN many start d j : Nat) ∧ idxN many start d j < many := by
  have h1 := Int.emod_nonneg ((start : Int) + (1 - 2 * (d : Int)) * (j : Int)) (b := (many : Int)) (by omega)
  have h2 := Int.emod_lt_of_pos ((start : Int) + (1 - 2 * (d : Int)) * (j : Int)) (b := (many : Int)) (by omega)
  unfold idxN
  generalize ((start : Int) + (1 - 2 * (d : Int)) * (j : Int)) % (many : Int) = r at h1 h2 ⊢
  omega
noncomputable def szAt (ps : List Pc) (t : Nat) : Nat := (ps[t]?.map fun p => sizes p.gs).getD 0
theorem sz_sum : ∀ (ps : List Pc), ((List.range ps.length).map (szAt ps)).sum = sizes (allG (prs ps))
  | [] => rfl
  | p :: r => by
    have ih := sz_sum r
    have e : allG (prs (p :: r)) = p.gs ++ allG (prs r) := by unfold allG prs; rw [List.map_cons, List.flatMap_cons]
    rw [e, sizes_append, ← ih, List.length_cons, List.range_succ_eq_map, List.map_cons, List.sum_cons, List.map_map]
    rfl
theorem seg_find : ∀ (ps : List Pc) (y : Nat), y < sizes (allG (prs ps)) → ∃ t, t < ps.length ∧ sizes (allG (prs (ps.take t))) ≤ y ∧ y < sizes (allG (prs (ps.take t))) + szAt ps t
  | [], y, h => absurd h (Nat.not_lt_zero _)
  | p :: r, y, h => by
    have e : ∀ r : List Pc, allG (prs (p :: r)) = p.gs ++ allG (prs r) := fun r => by unfold allG prs; rw [List.map_cons, List.flatMap_cons]
    rw [e, sizes_append] at h
    by_cases q : y < sizes p.gs
    · exact ⟨0, Nat.zero_lt_succ _, Nat.zero_le _, by show y < 0 + sizes p.gs; omega⟩
    · obtain ⟨t, ht, h1, h2⟩ := seg_find r (y - sizes p.gs) (by omega)
      refine ⟨t + 1, Nat.succ_lt_succ ht, ?_, ?_⟩
      · rw [List.take_succ_cons, e, sizes_append]; omega
      · rw [List.take_succ_cons, e, sizes_append]
        show y < _ + szAt r t
        omega
set_option maxHeartbeats 4000000 in
theorem law_C {w : World} {low : Bool} {tail : Option Bool} {ps : List Pc} {PL : Led} {box few pl pn : Addr} {ob ofew : Obj} {npl npn : Nat} {tt ts tm tc tw tj : Tok} {want : List UInt8} {q0 q1 q3 q8 q9 q10 q11 q12 q13 q14 q15 q16 q17 q18 q19 q20 q23 q24 q25 q27 q29 q30 q31 q32 q33 q34 q35 q36 q37 q38 q39 q40 : Option Value} {gA : List Grp}
    (hb : Built low PL ps) (hne : ps ≠ []) (htl : tail.getD false = low) (hd : Drw box few ob ofew) (hw : want = unB (encAll low [] (allG (prs ps)))) (hgA : gA = ps.flatMap Pc.grps) (C : Cx fn_law) (hn : 20 ≤ C.n) (hfr : C.env.frame = some C.L) (hA : C.A.frames = some [C.env]) :
    N C (execs ((bodyOf (fdAt 598)).drop 17) C.env) (VE box pl tt ts tm tc tw tj tail (sizes (allG (prs ps))) ps.length ((sizes (allG (prs ps)) + 7) / 8) want (fmtL (allF (prs ps)) ++ tailL tail) q0 q1 q3 (some (.ref pn)) q8 q9 q10 q11 q12 q13 q14 q15 q16 q17 q18 q19 q20 q23 q24 q25 q27 q29 q30 q31 q32 q33 q34 q35 q36 q37 q38 q39 q40)
      ((box, ob) :: (few, ofew) :: (pl, listO (prefs ps) npl) :: (pn, listO (refs gA) npn) :: PL) (fun f _ _ => f = .ret (.bool true)) := by
  have ok := law_ok w
  have hwl : want.length = (sizes (allG (prs ps)) + 7) / 8 := by rw [hw]; exact want_len _ _
  have hfac := Pcs.facts hb.pcs.part
  have hpl : ps.length ≤ 4 := by have := hb.pcs.few; rwa [List.length_map] at this
  have hpl2 : (prs ps).length ≤ 4 := hb.pcs.few
  have hpl0 : 0 < ps.length := List.length_pos_iff.mpr hne
  have hszA : sizes (allG (prs ps)) ≤ 240 := by have := hfac.2.2.2.2.1; omega
  have htl1 : (tailL tail).length ≤ 1 := by
    cases tail with
    | none => exact Nat.zero_le _
    | some b => exact Nat.le_refl _
  refine n_cons (n_let ok (n_Call ?_))
  walk_at "ww"
  refine n_callWith ?_
  refine w_evalArgsE ?_
  walk_at "ww"
  refine n_bytearray (by omega) fun bf => ?_
  walk_at "ww"
  refine seqn_next (n_cons (w2n ?_))
  walk_at "ww"
  ktf_call 553
  walk_at "ww"
  refine w_draw hd (R := (bf, baO (List.replicate ((sizes (allG (prs ps)) + 7) / 8) 0)) :: (pl, listO (prefs ps) npl) :: (pn, listO (refs gA) npn) :: PL) (by kcf_m) (by omega) (by omega) fun ob2 t6 start hs hd2 => ?_
  walk_at "ww"
  refine seqn_next (n_cons (w2n ?_))
  walk_at "ww"
  ktf_call 553
  walk_at "ww"
  refine w_draw hd2 (R := (bf, baO (List.replicate ((sizes (allG (prs ps)) + 7) / 8) 0)) :: (pl, listO (prefs ps) npl) :: (pn, listO (refs gA) npn) :: PL) (by kcf_m) (by omega) (by omega) fun ob3 t7 dd hdd hd3 => ?_
  refine w_mul_int (m := 2) (n := 2) (by decide) (by omega) (by decide) fun t8 => ?_
  walk_at "ww"
  rename_i t9
  refine seqn_next (n_cons (w2n ?_))
  walk_at "ww"
  rename_i t10
  refine seqn_next (n_cons (n_For ?_))
  walk_at "ww"
  refine w_range1 fun ra r1 r2 r3 => ?_
  refine w_iter_range (by omega) (by omega) (.inl (.head _)) fun it => ?_
  generalize rangeO 0 (ps.length : Int) r1 r2 r3 = robj
  have hperm := idx_perm ps.length (by omega) start (by omega) dd (by omega)
  refine nloop_range (fun i V H => ∃ (bs : List UInt8) (q9 q10 q11 q12 : Option Value) (tz : Tok), InP low (allG (prs ps)) (fun x => ∃ j, j < i ∧ sizes (allG (prs (ps.take (idxN ps.length start dd j)))) ≤ x ∧ x < sizes (allG (prs (ps.take (idxN ps.length start dd j)))) + szAt ps (idxN ps.length start dd j)) bs ∧
    H = (ra, robj) :: (box, ob3) :: (few, ofew) :: (bf, baO bs) :: (pl, listO (prefs ps) npl) :: (pn, listO (refs gA) npn) :: PL ∧
    V = VE box pl tt ts tm tc tw tj tail (sizes (allG (prs ps))) ps.length ((sizes (allG (prs ps)) + 7) / 8) want (fmtL (allF (prs ps)) ++ tailL tail) q0 q1 q3 (some (.ref pn)) q8 q9 q10 q11 q12 q13 q14 q15 q16 q17 q18 q19 q20 q23 q24 q25 q27 q29 (some (.ref bf)) (some (.int start t6)) (some (.int (1 - 2 * (dd : Int)) t9)) (some (.int ((((List.range i).map fun j => szAt ps (idxN ps.length start dd j)).sum : Nat) : Int) tz)) q34 q35 q36 q37 q38 q39 q40)
    ⟨_, _, _, _, _, t10, ⟨(InP.start low (allG (prs ps))).len, (InP.start low (allG (prs ps))).un, fun y hy => (InP.start low (allG (prs ps))).eq y (hy.elim (fun ⟨_, h, _⟩ => absurd h (Nat.not_lt_zero _)) .inr)⟩, rfl, rfl⟩ ?_ ?_
  · rintro i V H tk hi ⟨bs, q9, q10, q11, q12, tz, hin, rfl, rfl⟩
    obtain ⟨hid, hil⟩ := idx_lt (start := start) (d := dd) (j := i) hpl0
    obtain ⟨x, hx⟩ : ∃ x, x = idxN ps.length start dd i := ⟨_, rfl⟩
    rw [← hx] at hid hil
    obtain ⟨p, hp⟩ : ∃ p, ps[x]? = some p := ⟨ps[x], List.getElem?_eq_getElem hil⟩
    obtain ⟨hpa, hpm, hpg⟩ := hb.at_ x p hp
    obtain ⟨off, hoff⟩ : ∃ off, off = sizes (allG (prs (ps.take x))) := ⟨_, rfl⟩
    rw [← hoff] at hpa
    walk_at "ww"
    refine n_cons (w2n ?_)
    walk_at "ww"
    refine w_mul_int (m := 2) (n := 3) (by omega) (by omega) (by decide) fun t11 => ?_
    walk_at "ww"
    refine w_mod_int (by omega) fun t12 => ?_
    rw [hid]
    refine w_ilist (.inl (by tbr_iter (List.Mem.head _))) (.listO _ _) (i := x) rfl (x := .ref p.a) (by unfold prefs; rw [List.getElem?_map, hp]; rfl) (by omega) ?_
    refine w_assign_Tup (vs := p.vs off) (.inl (by tbr_iter hpa)) (by kernel_rfl) (by kernel_rfl) ?_
    rw [show p.vs off = [.str (S (fmtL p.fs)) p.t1, .int off p.t2, .ref p.ma] from rfl]
    walk_at "ww"
    have hpp : (prs ps)[x]? = some p.pair := by rw [List.getElem?_map, hp]; rfl
    have hpin : p.pair ∈ prs ps := List.mem_of_getElem? hpp
    have hfmt : FmtOk p.fs p.gs := hb.pcs.one hpin
    have hpart := hb.pcs.part _ hpin
    have hfl : (fmtL p.fs).length ≤ 20 := hpart.2.2.2.2.1
    have hl2 : p.grps.length ≤ 3 := by have := hpart.2.2.1; rwa [List.length_map] at this
    have hcut : allG (prs ps) = allG (prs (ps.take x)) ++ p.gs ++ allG ((prs ps).drop (x + 1)) := by rw [prs_take]; exact allG_at hpp
    have hsz : sizes (allG (prs ps)) = off + sizes p.gs + sizes (allG ((prs ps).drop (x + 1))) := by
      conv => lhs; rw [hcut, sizes_append, sizes_append, ← hoff]
    have hbsl := hin.len
    refine seqn_next (n_cons (n_Expr (n_Call ?_) (by kernel_rfl) (by kernel_rfl)))
    ktf_call 531
    refine n_callWith ?_
    refine w_evalArgsE ?_
    refine w_args_cons ?_
    refine w_BinOp ?_
    refine w_Name ok (by tb_start) ?_
    refine w_Name ok (by tb_start) ?_
    refine w_add_S (by omega) fun t13 => ?_
    refine w_args_cons ?_
    refine w_Name ok (by tb_start) ?_
    refine w_args_cons ?_
    refine w_Name ok (by tb_start) ?_
    refine w_args_star ?_
    walk_at "ww"
    ktf_call 593
    walk_at "ww"
    refine w_sp (P := []) (values_sp (gs := p.grps) (c := 4) (.listO (refs p.grps) p.n) (by decide) (by omega)) (by omega) .rfl (fun hp k => ⟨k _ _ (.inl (by tbr_iter hpm)), fun y hy => k _ _ (.inl (by tbr_iter (hpg y hy)))⟩) ?_
    rintro v P' ⟨va, rfl, rfl⟩
    have hv := col_vals p.grps
    have hcl : (colOf 4 p.grps).length ≤ 3 := by unfold colOf; rw [List.length_map]; exact Nat.le_trans (List.length_filter_le _ _) hl2
    refine ⟨va, colOf 4 p.grps, rfl, .inl (.head _), by omega, ?_⟩
    walk_at "ww"
    rw [List.append_nil]
    have hszx : szAt ps x = sizes p.gs := by unfold szAt; rw [hp]; rfl
    refine n_sp (P := [(bf, baO bs)]) (R := (it, rangeItO ((i : Int) + 1) ((ps.length : Int) - (i : Int) - 1)) :: (ra, robj) :: (box, ob3) :: (few, ofew) :: (pl, listO (prefs ps) npl) :: (pn, listO (refs gA) npn) :: PL) (m_pi_sp hfmt hv (by omega) (by omega)) (by omega)
      (by exact .take (.there (.there (.there (.there (.there .here))))) (.skip .rfl)) (fun _ _ => trivial) ?_
    rintro v P' ⟨rfl, rfl⟩
    rw [htl]
    have hin2 := InP.write (low := low) (pre := allG (prs (ps.take x))) (gs := p.gs) (post := allG ((prs ps).drop (x + 1))) (by rw [← hcut]; exact hin)
    rw [← hcut, ← hoff] at hin2
    walk_at "ww"
    refine seqn_next (n_cons (w2n ?_))
    walk_at "ww"
    ktf_call 546
    walk_at "ww"
    refine w_add_S (by omega) fun t14 => ?_
    walk_at "ww"
    refine w_spz (m_calc_sp hfmt) (by omega) (fun _ _ => trivial) (fun _ _ ⟨_, _, e⟩ => e) ?_
    rintro v P' ⟨t15, rfl, _⟩
    walk_at "ww"
    rename_i t16
    refine seqn_next (n_nil ?_)
    refine ⟨(ra, robj) :: (box, ob3) :: (few, ofew) :: (bf, baO (intoB low bs off p.gs)) :: (pl, listO (prefs ps) npl) :: (pn, listO (refs gA) npn) :: PL, by exact .take (.there .here) (.take (.there .here) (.take (.there .here) (.take (.there .here) .rfl))), intoB low bs off p.gs, some (.str (S (fmtL p.fs)) p.t1), some (.ref p.ma), some (.int off p.t2), some (.int i tk), t16, ⟨hin2.len, hin2.un, fun y hy => hin2.eq y ?_⟩, rfl, ?_⟩
    · rcases hy with ⟨j, hj, h1, h2⟩ | hy
      · by_cases q : j < i
        · exact .inl (.inl ⟨j, q, h1, h2⟩)
        · have : j = i := by omega
          subst this
          rw [← hx, ← hoff] at h1 h2
          rw [hszx] at h2
          exact .inl (.inr ⟨h1, h2⟩)
      · exact .inr hy
    · have e : ((((List.range (i + 1)).map fun j => szAt ps (idxN ps.length start dd j)).sum : Nat) : Int) = ((((List.range i).map fun j => szAt ps (idxN ps.length start dd j)).sum : Nat) : Int) + (sizes p.gs : Int) := by
        rw [List.range_succ, List.map_append, List.sum_append, Int.natCast_add]
        congr 1
        show (([szAt ps (idxN ps.length start dd i)].sum : Nat) : Int) = _
        rw [← hx, hszx, List.sum_singleton]
      rw [e]
  · rintro V H ⟨bs, q9, q10, q11, q12, tz, hin, rfl, rfl⟩
    have hsum : ((List.range ps.length).map fun j => szAt ps (idxN ps.length start dd j)).sum = sizes (allG (prs ps)) := by
      rw [← sz_sum ps]
      have := (hperm.map (szAt ps)).sum_nat
      rwa [List.map_map] at this
    have hdone : bs = want := by
      rw [hw]
      refine hin.done fun y hy => ?_
      obtain ⟨t, ht, h1, h2⟩ : ∃ t, t < ps.length ∧ sizes (allG (prs (ps.take t))) ≤ y ∧ y < sizes (allG (prs (ps.take t))) + szAt ps t := seg_find ps y hy
      have hm : t ∈ (List.range ps.length).map (idxN ps.length start dd) := hperm.mem_iff.mpr (List.mem_range.mpr ht)
      obtain ⟨j, hj, rfl⟩ := List.mem_map.mp hm
      exact ⟨j, List.mem_range.mp hj, h1, h2⟩
    subst hdone
    rw [hsum]
    refine seqn_next (n_cons (w2n ?_))
    refine w_If ?_
    walk_at "ww"
    refine w_bytes_ba (.inl (by tbr_iter (List.Mem.head _))) (by omega) fun t20 => ?_
    walk_at "ww"
    have hbb : (bs != bs) = false := by simp
    rw [hbb]
    refine ⟨(fun h => nomatch h), fun _ => ?_⟩
    walk_at "ww"
    refine ⟨fun h => absurd h (by simp), fun _ => ?_⟩
    refine w_isTrue_or_nil ?_
    refine ⟨(fun h => nomatch h), fun _ => ?_⟩
    refine w_nil (seqn_next (w2n ?_))
    refine w_drop' (H' := (box, ob3) :: (few, ofew) :: (pl, listO (prefs ps) npl) :: (pn, listO (refs gA) npn) :: PL) (by exact .skip (.take .here (.take .here (.skip .rfl)))) ?_
    exact law_D (w := w) hb hne htl hd3 hw hgA C hn hfr hA
-- part L4
/-! the law: the number laid, the bytes packed -/
theorem laidAll_snoc (low : Bool) (T : Nat) (g : G) : ∀ (gs : List G) (h p : Nat), laidAll low T h p (gs ++ [g]) = laidN low (laidAll low T h p gs) T (p + sizes gs) g
  | [], h, p => by show laidN low h T p g = _; rfl
  | x :: r, h, p => by
    show laidAll low T (laidN low h T p x) (p + x.size) (r ++ [g]) = _
    rw [laidAll_snoc low T g r, sizes_cons, Nat.add_assoc]; rfl
theorem laidAll_lt {low : Bool} {T : Nat} {gs : List G} (hg : ∀ g ∈ gs, g.Ok) (h : sizes gs ≤ T) : laidAll low T 0 0 gs < 2 ^ T := by
  have := laidAll_bits (low := low) (T := T) gs [] hg (by show 0 + sizes gs ≤ T; omega)
  have e0 : valb [] * 2 ^ (T - ([] : List Bool).length) = 0 := by show 0 * _ = 0; rw [Nat.zero_mul]
  rw [e0] at this
  have this : laidAll low T 0 0 gs = valb ([] ++ encs low 0 gs) * 2 ^ (T - (0 + sizes gs)) := this
  rw [this, List.nil_append, Nat.zero_add]
  have h1 := valb_lt (encs low 0 gs)
  rw [encs_len] at h1
  have e : 2 ^ T = 2 ^ sizes gs * 2 ^ (T - sizes gs) := by rw [← Nat.pow_add]; congr 1; omega
  rw [e]
  exact Nat.mul_lt_mul_of_pos_right h1 (Nat.two_pow_pos _)
set_option maxHeartbeats 4000000 in
theorem law_B {w : World} {low : Bool} {tail : Option Bool} {ps : List Pc} {PL : Led} {box few pl pn : Addr} {ob ofew : Obj} {npl npn : Nat} {tt ts : Tok} {q0 q1 q8 q9 q10 q11 q12 q13 q14 q15 q16 q17 q18 q19 q20 q21 q22 q23 q24 q25 q26 q27 q28 q29 q30 q31 q32 q33 q34 q35 q36 q37 q38 q39 q40 : Option Value} {gA : List Grp}
    (hb : Built low PL ps) (hne : ps ≠ []) (htl : tail.getD false = low) (hd : Drw box few ob ofew) (hgA : gA = ps.flatMap Pc.grps) (C : Cx fn_law) (hn : 20 ≤ C.n) (hfr : C.env.frame = some C.L) (hA : C.A.frames = some [C.env]) :
    N C (execs ((bodyOf (fdAt 598)).drop 8) C.env) [q0, q1, some (.ref box), some (.bool low), some (.str (S (tailL tail)) tt), some (.ref pl), some (.ref pn), some (.int (sizes (allG (prs ps)) : Nat) ts), q8, q9, q10, q11, q12, q13, q14, q15, q16, q17, q18, q19, q20, q21, q22, q23, q24, q25, q26, q27, q28, q29, q30, q31, q32, q33, q34, q35, q36, q37, q38, q39, q40]
      ((box, ob) :: (few, ofew) :: (pl, listO (prefs ps) npl) :: (pn, listO (refs gA) npn) :: PL) (fun f _ _ => f = .ret (.bool true)) := by
  have ok := law_ok w
  have hfac := Pcs.facts hb.pcs.part
  have hpl : ps.length ≤ 4 := by have := hb.pcs.few; rwa [List.length_map] at this
  have hpl2 : (prs ps).length ≤ 4 := hb.pcs.few
  have hpl0 : 0 < ps.length := List.length_pos_iff.mpr hne
  have hszA : sizes (allG (prs ps)) ≤ 240 := by have := hfac.2.2.2.2.1; omega
  have htl1 : (tailL tail).length ≤ 1 := by
    cases tail with
    | none => exact Nat.zero_le _
    | some b => exact Nat.le_refl _
  have hgA2 : gA.map Grp.g = allG (prs ps) := by
    rw [hgA]; unfold allG prs; rw [List.map_flatMap, List.flatMap_map]
  have hgl : gA.length ≤ 12 := by
    have h1 := hfac.2.2.2.1
    rw [← hgA2, List.length_map] at h1
    omega
  have hgm : ∀ x ∈ gA, (x.a, tupO x.vs) ∈ PL := fun x hx => by
    rw [hgA] at hx
    obtain ⟨q, hq, hx⟩ := List.mem_flatMap.mp hx
    obtain ⟨j, hj, e⟩ := List.mem_iff_getElem.mp hq
    exact (hb.at_ j q (by rw [List.getElem?_eq_getElem hj, e])).2.2 x hx
  have hAok : ∀ g ∈ gA.map Grp.g, g.Ok := by rw [hgA2]; exact hfac.2.1
  obtain ⟨T, hT⟩ : ∃ T, T = 8 * ((sizes (allG (prs ps)) + 7) / 8) := ⟨_, rfl⟩
  refine n_cons (w2n ?_)
  walk_at "ww"
  refine w_len_list (.inl (by tbr_iter (List.Mem.head _))) (.listO (prefs ps) npl) (by unfold prefs; rw [List.length_map]; omega) fun tm => ?_
  rw [show (prefs ps).length = ps.length by unfold prefs; rw [List.length_map]]
  walk_at "ww"
  refine seqn_next (n_cons (w2n ?_))
  walk_at "ww"
  refine w_div_int (m := 12) (by decide) (by omega) (by decide) fun tc => ?_
  rw [show ((sizes (allG (prs ps)) : Nat) : Int) + 7 = ((sizes (allG (prs ps)) + 7 : Nat) : Int) by omega, show (((sizes (allG (prs ps)) + 7 : Nat) : Int) / 8) = (((sizes (allG (prs ps)) + 7) / 8 : Nat) : Int) by omega]
  walk_at "ww"
  refine seqn_next (n_cons (w2n ?_))
  walk_at "ww"
  refine seqn_next (n_cons (w2n ?_))
  walk_at "ww"
  refine seqn_next (n_cons (w2n ?_))
  walk_at "ww"
  refine w_iter_list (.inl (by tbr_iter (List.Mem.head _))) (.listO (refs gA) npn) fun it o hit => ?_
  refine Loop.weaken (Q' := fun f V H => f = .next ∧ H = (box, ob) :: (few, ofew) :: (pl, listO (prefs ps) npl) :: (pn, listO (refs gA) npn) :: PL ∧ ∃ (q24 q25 : Option Value) (th : Tok),
    V = [q0, q1, some (.ref box), some (.bool low), some (.str (S (tailL tail)) tt), some (.ref pl), some (.ref pn), some (.int (sizes (allG (prs ps)) : Nat) ts), q8, q9, q10, q11, q12, q13, q14, q15, q16, q17, q18, q19, q20, some (.int (ps.length : Nat) tm), some (.int (((sizes (allG (prs ps)) + 7) / 8 : Nat) : Int) tc), some (.int (laidAll low T 0 0 (allG (prs ps)) : Nat) th), q24, q25, q26, q27, q28, q29, q30, q31, q32, q33, q34, q35, q36, q37, q38, q39, q40]) ?_ ?_
  · rename_i ta0 tb0
    refine loop_list hit (.listO (refs gA) npn) (fun i V H => H = (box, ob) :: (few, ofew) :: (pl, listO (prefs ps) npl) :: (pn, listO (refs gA) npn) :: PL ∧ ∃ (q25 : Option Value) (th ta : Tok),
      V = [q0, q1, some (.ref box), some (.bool low), some (.str (S (tailL tail)) tt), some (.ref pl), some (.ref pn), some (.int (sizes (allG (prs ps)) : Nat) ts), q8, q9, q10, q11, q12, q13, q14, q15, q16, q17, q18, q19, q20, some (.int (ps.length : Nat) tm), some (.int (((sizes (allG (prs ps)) + 7) / 8 : Nat) : Int) tc), some (.int (laidAll low T 0 0 ((gA.take i).map Grp.g) : Nat) th), some (.int (sizes ((gA.take i).map Grp.g) : Nat) ta), q25, q26, q27, q28, q29, q30, q31, q32, q33, q34, q35, q36, q37, q38, q39, q40])
      ?_ ⟨rfl, q25, _, _, rfl⟩ ?_ ?_
    · rintro i V H ⟨rfl, q25, th, ta, rfl⟩
      exact .inl (by tbr_iter (List.Mem.head _))
    · rintro i y V H o2 hy ⟨rfl, q25, th, ta, rfl⟩
      obtain ⟨x, hx, rfl⟩ : ∃ x, gA[i]? = some x ∧ y = .ref x.a := by
        unfold refs at hy
        rw [List.getElem?_map] at hy
        cases e : gA[i]? with
        | none => rw [e] at hy; cases hy
        | some x => rw [e] at hy; cases hy; exact ⟨x, rfl, rfl⟩
      have hxm := hgm x (List.mem_of_getElem? hx)
      have hxg : x.g.Ok := hAok _ (List.mem_map_of_mem (List.mem_of_getElem? hx))
      obtain ⟨k1, k2, k3, k4, va, vb, hvs, hva, hvb⟩ := x.gv.ex
      have htk : (gA.take (i + 1)).map Grp.g = (gA.take i).map Grp.g ++ [x.g] := by rw [List.take_add_one, hx, List.map_append]; rfl
      have hall : gA.map Grp.g = (gA.take i).map Grp.g ++ x.g :: (gA.drop (i + 1)).map Grp.g := by
        obtain ⟨hlt, he⟩ := List.getElem?_eq_some_iff.mp hx
        conv => lhs; rw [← List.take_append_drop i gA, List.drop_eq_getElem_cons hlt, he, List.map_append, List.map_cons]
      have hszs : sizes (allG (prs ps)) = sizes ((gA.take i).map Grp.g) + (x.g.size + sizes ((gA.drop (i + 1)).map Grp.g)) := by
        rw [← hgA2]
        conv => lhs; rw [hall, sizes_append, sizes_cons]
      have hlt : laidAll low T 0 0 ((gA.take i).map Grp.g) < 2 ^ T := laidAll_lt (fun g hg => hAok g (by rw [hall]; exact List.mem_append_left _ hg)) (by omega)
      walk_at "ww"
      ktf_call 574
      walk_at "ww"
      refine w_mul_int (m := 4) (n := 12) (by decide) (by rw [Int.natAbs_natCast]; omega) (by decide) fun t8 => ?_
      rw [show (8 : Int) * (((sizes (allG (prs ps)) + 7) / 8 : Nat) : Int) = ((T : Nat) : Int) by omega]
      walk_at "ww"
      refine w_spz (laid_sp (by omega) (by omega) hlt hxg.lt x.gv) (by omega) (fun hp k => k _ _ (.inl (by tbr_iter hxm))) (fun _ _ ⟨_, _, e⟩ => e) ?_
      rintro v P' ⟨t9, rfl, _⟩
      walk_at "ww"
      refine w_itup (vs := x.vs) (.inl (by tbr_iter hxm)) (i := 2) (x := .int x.g.size k3) rfl (by rw [hvs]; rfl) (by decide) ?_
      walk_at "ww"
      rename_i t10
      refine ⟨_, .rfl, rfl, some (.ref x.a), t9, t10, ?_⟩
      rw [htk, laidAll_snoc, Nat.zero_add, sizes_append, show sizes [x.g] = x.g.size from rfl, Int.natCast_add]
    · rintro V H ⟨rfl, q25, th, ta, rfl⟩
      have e2 : (refs gA).length = gA.length := by unfold refs; rw [List.length_map]
      rw [e2, List.take_length, hgA2]
      exact ⟨rfl, rfl, _, _, th, rfl⟩
  · rintro f V H ⟨rfl, rfl, q24, q25, th, rfl⟩
    refine seqn_next (n_cons (w2n ?_))
    walk_at "ww"
    have hpow : 256 ^ ((sizes (allG (prs ps)) + 7) / 8) = 2 ^ T := by rw [show (256 : Nat) = 2 ^ 8 from rfl, ← Nat.pow_mul, hT]
    refine w_to_bytes rfl rfl (by omega) (by rw [hpow]; exact laidAll_lt hfac.2.1 (by omega)) fun tw => ?_
    rw [hT, want_eq hfac.2.1]
    obtain ⟨want, hwant⟩ : ∃ want, want = unB (encAll low [] (allG (prs ps))) := ⟨_, rfl⟩
    rw [← hwant]
    have hfq : (fmtL (allF (prs ps))).length ≤ 80 := by have := hfac.2.2.2.2.2.1; omega
    walk_at "ww"
    refine seqn_next (n_cons (w2n ?_))
    walk_at "ww"
    refine w_LCp (qs := ps) (by omega) ?_
    walk_at "ww"
    refine ⟨pl, npl, rfl, .inl (by tbr_iter (List.Mem.head _)), fun q hq => ?_, fun ws sa hws => ?_⟩
    · obtain ⟨j, hj, e⟩ := List.mem_iff_getElem.mp hq
      exact ⟨_, .inl (by tbr_iter (hb.at_ j q (by rw [List.getElem?_eq_getElem hj, e])).1)⟩
    walk_at "ww"
    refine w_join_list (.inl (.head _)) (.listO _ _) hws (by rw [fmt_flat]; omega) fun t9 => ?_
    rw [fmt_flat]
    walk_at "ww"
    refine w_add_S (by omega) fun tj => ?_
    walk_at "ww"
    refine seqn_next (n_cons (w2n ?_))
    refine w_drop' (H' := (box, ob) :: (few, ofew) :: (pl, listO (prefs ps) npl) :: (pn, listO (refs gA) npn) :: PL) (by exact .skip .rfl) ?_
    refine w_let ok (w_Call ?_)
    ktf_call 516
    refine w_cwS ?_
    refine w_args_cons ?_
    refine w_Name ok (by tb_start) ?_
    refine w_args_star ?_
    walk_at "ww"
    ktf_call 593
    walk_at "ww"
    refine w_sp (P := []) (values_sp (gs := gA) (c := 4) (.listO (refs gA) npn) (by decide) (by omega)) (by omega) .rfl (fun hp k => ⟨k _ _ (.inl (by tbr_iter (List.Mem.head _))), fun y hy => k _ _ (.inl (by tbr_iter (hgm y hy)))⟩) ?_
    rintro v P' ⟨va, rfl, rfl⟩
    have hv := col_vals gA
    rw [hgA2] at hv
    have hcl : (colOf 4 gA).length ≤ 12 := by unfold colOf; rw [List.length_map]; exact Nat.le_trans (List.length_filter_le _ _) hgl
    refine ⟨va, colOf 4 gA, rfl, .inl (.head _), by omega, ?_⟩
    walk_at "ww"
    rw [List.append_nil]
    refine w_spz (m_pack_sp (hb.pcs.fmt (by simpa using hne)) hv) (by omega) (fun _ _ => trivial) (fun _ _ ⟨_, _, e⟩ => e) ?_
    rintro v P' ⟨t11, rfl, _⟩
    rw [htl, ← hwant]
    walk_at "ww"
    refine seqn_next (n_cons (w2n ?_))
    refine w_If ?_
    walk_at "ww"
    refine ⟨(fun h => nomatch h), fun _ => ?_⟩
    walk_at "ww"
    have hbb : (want != want) = false := by simp
    rw [hbb]
    refine ⟨(fun h => nomatch h), fun _ => ?_⟩
    refine w_isTrue_or_nil ?_
    refine ⟨(fun h => nomatch h), fun _ => ?_⟩
    refine w_nil (seqn_next ?_)
    refine n_drop' (H' := (box, ob) :: (few, ofew) :: (pl, listO (prefs ps) npl) :: (pn, listO (refs gA) npn) :: PL) (by exact .skip .rfl) ?_
    exact law_C (w := w) hb hne htl hd hwant hgA C hn hfr hA
-- part L5
/-! the law: the pieces drawn -/
noncomputable def sc_n : Scope := { kind := .function, names := [(Str.ofString ".0", .local), (Str.ofString "n", .local)], isGenerator := false, isCoroutine := false }
theorem nC_ok : FnOk (fn_lawC sc_n (Str.ofString "n")) :=
  { nd := by decide +kernel, loc := by decide +kernel, kind := by kernel_rfl, dbg := by decide +kernel, gl := by kernel_rfl, bn := by kernel_rfl, en := fun _ _ => ⟨by kernel_rfl, rfl, by kernel_rfl, by kernel_rfl⟩ }
theorem w_truthy_list {F : Fn} {C : Cx F} {E : Value → Vals → Led → Prop} {V : Vals} {H : Led} {l : Addr} {o : Obj} {vs : List Value} {Q : Bool → Vals → Led → Prop} (hl : Has C H l o) (lo : LO o vs) (hz : vs.length ≤ 1000000) (h : Q (!vs.isEmpty) V H) : W C E (truthy (.ref l)) V H Q := .mk fun s v =>
  wpAny_truthy_list (lo.isList (hl.at v)) (by simp; omega) ⟨V, H, v.toks _, by simpa using h⟩
noncomputable def sgL : Option Bool → List Nat
  | none => []
  | some b => [ordCh b]
/-- the list the draws are made from -/
theorem w_few {C : Cx fn_law} {E : Value → Vals → Led → Prop} {V : Vals} {H : Led} {p1 p2 p3 p4 pos : Pos} {k : Nat} {iter : Expr} {Q : Value → Vals → Led → Prop} {ns : List Int} (hq : ns.length ≤ 1000)
    (h : W C E (eval iter C.env) V H (fun x V1 H1 => ∃ l ol vs, x = .ref l ∧ Has C H1 l ol ∧ LO ol vs ∧ IntL vs ns ∧ ∀ ws a ms, IntL ws ms → ws.length = ns.length → Q (.ref a) V1 ((a, listO ws ws.length) :: H1)))
    (hfold : ∀ x, foldedSetIterable iter C.env x = Pure.pure x := by intro _; kernel_rfl) :
    W C E (eval (.ListComp (.BinOp (.Name (Str.ofString "n") p1) .Mod (.Constant (.int 1000003) k p2) p3) [⟨.Name (Str.ofString "n") p4, iter, [], 0⟩] sc_n pos) C.env) V H Q := by
  refine w_LC (F' := fn_lawC sc_n (Str.ofString "n")) nC_ok (cl := []) (fun L => by kernel_rfl) (by kernel_rfl) (by kernel_rfl) (by kernel_rfl) (by kernel_rfl) (h.mono fun x V1 H1 ⟨l, ol, vs, hx, hl, lo, hi, fin⟩ => ?_) hfold
  refine ⟨l, _, vs, hx, hl, lo, by rw [hi.1]; omega, fun i ws => ∃ ms, IntL ws ms ∧ ws.length = i, ⟨[], ⟨rfl, fun _ _ h => nomatch h⟩, rfl⟩, ?_, ?_⟩
  · intro C' V' H' i y ws hw' hn' ho hold hy ⟨ms, hms, hwl⟩ hV'
    have ok := nC_ok
    obtain ⟨v0, rfl⟩ : ∃ v0, V' = [v0] := by
      match V', hV' with
      | [v0], _ => exact ⟨v0, rfl⟩
    have hil : i < ns.length := by rw [← hi.1]; exact (List.getElem?_eq_some_iff.mp hy).1
    obtain ⟨t, ht⟩ := hi.2 i ns[i] (List.getElem?_eq_getElem hil)
    rw [hy] at ht
    cases ht
    refine w_assign_Name ?_
    walk_at "ww"
    refine w_tests0 ?_
    refine ⟨fun _ => ?_, fun h => nomatch h⟩
    walk_at "ww"
    refine w_mod_int (by decide) fun t2 => ?_
    refine ⟨rfl, .rfl, ms ++ [ns[i] % 1000003], ⟨by rw [List.length_append, List.length_append, hms.1]; rfl, fun j n hj => ?_⟩, by rw [List.length_append, hwl]; rfl⟩
    by_cases q : j < ms.length
    · rw [List.getElem?_append_left q] at hj
      obtain ⟨t3, ht3⟩ := hms.2 j n hj
      exact ⟨t3, by rw [List.getElem?_append_left (by rw [hms.1]; exact q)]; exact ht3⟩
    · have hj' := (List.getElem?_eq_some_iff.mp hj).1
      rw [List.length_append] at hj'
      have hje : j = ms.length := by simp only [List.length_cons, List.length_nil] at hj'; omega
      subst hje
      rw [List.getElem?_append_right (Nat.le_refl _), Nat.sub_self] at hj
      have hn : ns[i] % 1000003 = n := by simpa using hj
      exact ⟨t2, by rw [← hms.1, List.getElem?_append_right (Nat.le_refl _), Nat.sub_self, ← hn]; rfl⟩
  · rintro ws a ⟨ms, hms, hwl⟩
    exact fin ws a ms hms (by rw [hwl, hi.1])
theorem sizes_le : ∀ (gs : List G), (∀ g ∈ gs, g.Ok) → sizes gs ≤ 24 * gs.length
  | [], _ => Nat.le_refl _
  | g :: r, h => by
    have h1 := sizes_le r fun x hx => h x (.tail _ hx)
    have h2 := (h g (.head _)).pos.2
    rw [sizes_cons, List.length_cons]; omega
theorem fmt_snoc (fs : List Fi) (f : Fi) : fmtL (fs ++ [f]) = fmtL fs ++ sgL f.sg ++ [f.kd] ++ decL f.size ++ (if f.sp = true then [32] else []) := by
  unfold fmtL
  rw [List.flatMap_append]
  obtain ⟨sg, kd, size, sp⟩ := f
  cases sg with
  | none => simp [Fi.piece, Piece.t, sgL]
  | some b => simp [Fi.piece, Piece.t, sgL]
set_option maxHeartbeats 4000000 in
theorem law_A {w : World} {sc : Addr} {osc : Obj} {svals : List Value} {sns : List Int} (C : Cx fn_law) (hn : 20 ≤ C.n) (hfr : C.env.frame = some C.L) (hA : C.A.frames = some [C.env]) (hsc : C.h₀.get? sc = some osc) (lo : LO osc svals) (hi : IntL svals sns) (hsl : svals.length ≤ 100) :
    N C (execs (bodyOf (fdAt 598)) C.env) (some (.ref sc) :: List.replicate 40 none) [] (fun f _ _ => f = .ret (.bool true)) := by
  have ok := law_ok w
  rw [show List.replicate 40 (none : Option Value) = [none, none, none, none, none, none, none, none, none, none, none, none, none, none, none, none, none, none, none, none, none, none, none, none, none, none, none, none, none, none, none, none, none, none, none, none, none, none, none, none] from rfl]
  refine n_cons (w2n (W.mono (Q := fun f V' H' => f = .next ∧ ∃ fa ofew fvs ms, LO ofew fvs ∧ IntL fvs ms ∧ 0 < ms.length ∧ ms.length < 2 ^ 60 ∧ SubP [(fa, ofew)] H' ∧ V' = [some (.ref sc), some (.ref fa), none, none, none, none, none, none, none, none, none, none, none, none, none, none, none, none, none, none, none, none, none, none, none, none, none, none, none, none, none, none, none, none, none, none, none, none, none, none, none]) ?_ ?_))
  · walk_at "ww"
    refine w_few (ns := sns.take 40) (by rw [List.length_take]; omega) ?_
    walk_at "ww"
    refine cut_L (.inr hsc) lo .none (.int _ _) (by omega) fun sl => ?_
    rw [show cut svals none (some 40) = svals.take 40 from cut_to svals 40]
    refine ⟨sl, _, _, rfl, .inl (.head _), .listO _ _, ⟨by rw [List.length_take, List.length_take, hi.1], fun j n hj => ?_⟩, fun ws fa ms hms hwl => ?_⟩
    · rw [List.getElem?_take] at hj
      split at hj
      · rename_i hj40
        obtain ⟨t, ht⟩ := hi.2 j n hj
        exact ⟨t, by rw [List.getElem?_take, if_pos hj40]; exact ht⟩
      · cases hj
    have hws : ws.length ≤ 40 := by rw [hwl, List.length_take]; omega
    refine w_truthy_list (.inl (.head _)) (.listO _ _) (by omega) ?_
    refine ⟨fun h => ?_, fun h => ?_⟩
    · walk_at "ww"
      refine ⟨rfl, fa, _, ws, ms, .listO _ _, hms, ?_, ?_, .take .here .nil, rfl⟩
      · rw [← hms.1]
        cases ws with
        | nil => exact absurd h (by decide)
        | cons a r => exact Nat.zero_lt_succ _
      · rw [← hms.1]; omega
    · refine w_Bool1 ?_
      walk_at "ww"
      refine w_newList (fun fb => ?_) (line_le (by simp))
      walk_at "ww"
      rename_i t11
      refine ⟨rfl, fb, _, [.int 11 t11], [11], .listO _ 0, ⟨rfl, fun j n hj => ?_⟩, by decide, by decide, .take .here .nil, rfl⟩
      match j, hj with
      | 0, hj => exact ⟨t11, by rw [show n = 11 by simpa using hj.symm]; rfl⟩
  rintro f V' H' ⟨rfl, fa, ofew, fvs, ms, hlo, hms, hm0, hm1, hsub, rfl⟩
  refine seqn_next (n_drop' hsub (n_cons (w2n ?_)))
  walk_at "ww"
  rename_i tb0
  refine w_newList (fun bx => ?_) (line_le (by simp))
  have hd : Drw bx fa (listO [.ref fa, .int 0 tb0] 0) ofew := ⟨fvs, ms, 0, tb0, .listO _ 0, hlo, hms, hm0, hm1⟩
  walk_at "ww"
  refine seqn_next (n_cons (w2n ?_))
  walk_at "ww"
  ktf_call 553
  walk_at "ww"
  refine w_draw hd (R := []) (by exact .rfl) (by decide) (by omega) fun ob2 t2 d hdl hd2 => ?_
  walk_at "ww"
  obtain ⟨low, hlow⟩ : ∃ low, low = ((d : Int) == 0) := ⟨_, rfl⟩
  rw [← hlow]
  refine seqn_next (n_cons (w2n (W.mono (Q := fun f V' H' => f = .next ∧ ∃ ob3 tail tt, Drw bx fa ob3 ofew ∧ tail.getD false = low ∧ SubP [(bx, ob3), (fa, ofew)] H' ∧ V' = [some (.ref sc), some (.ref fa), some (.ref bx), some (.bool low), some (.str (S (tailL tail)) tt), none, none, none, none, none, none, none, none, none, none, none, none, none, none, none, none, none, none, none, none, none, none, none, none, none, none, none, none, none, none, none, none, none, none, none, none]) ?_ ?_)))
  · walk_at "ww"
    refine ⟨fun h => ?_, fun h => ?_⟩
    · refine w_strc (l := [60]) (by kernel_rfl) fun t3 => ?_
      walk_at "ww"
      exact ⟨rfl, ob2, some true, t3, hd2, h.symm, .rfl, rfl⟩
    · walk_at "ww"
      rename_i te tg
      refine w_newTuple (fun ta => ?_) (line_le (by simp))
      walk_at "ww"
      ktf_call 553
      walk_at "ww"
      refine w_draw hd2 (R := [(ta, tupO [.str (S []) te, .str (S [62]) tg])]) (by exact .take (.there .here) (.take (.there .here) .rfl)) (by decide) (by omega) fun ob3 t4 d2 hd2l hd3 => ?_
      have hd2' : d2 = 0 ∨ d2 = 1 := by omega
      rcases hd2' with rfl | rfl
      · refine w_itup (.inl (.tail _ (.tail _ (.head _)))) (i := 0) (x := .str (S []) te) rfl rfl (by decide) ?_
        walk_at "ww"
        exact ⟨rfl, ob3, none, te, hd3, h.symm, .take .here (.take .here .nil), rfl⟩
      · refine w_itup (.inl (.tail _ (.tail _ (.head _)))) (i := 1) (x := .str (S [62]) tg) rfl rfl (by decide) ?_
        walk_at "ww"
        exact ⟨rfl, ob3, some false, tg, hd3, h.symm, .take .here (.take .here .nil), rfl⟩
  rintro f V' H' ⟨rfl, ob3, tail, tt, hd3, htl, hsub2, rfl⟩
  refine seqn_next (n_drop' hsub2 (n_cons (w2n ?_)))
  walk_at "ww"
  refine w_newList (fun pl => ?_) (line_le (by simp))
  walk_at "ww"
  refine seqn_next (n_cons (w2n ?_))
  walk_at "ww"
  refine w_newList (fun pn => ?_) (line_le (by simp))
  walk_at "ww"
  refine seqn_next (n_cons (w2n ?_))
  walk_at "ww"
  rename_i tspan
  refine seqn_next (n_cons (w2n (W.mono (Q := fun f V' H' => f = .next ∧ ∃ (ob : Obj) (ps : List Pc) (PL : Led) (npl npn : Nat) (ts : Tok) (q8 q9 q10 q11 q12 q13 q14 q15 q16 q17 q18 q19 q20 : Option Value), Drw bx fa ob ofew ∧ ps ≠ [] ∧ Built low PL ps ∧ SubP ((bx, ob) :: (fa, ofew) :: (pl, listO (prefs ps) npl) :: (pn, listO (refs (ps.flatMap Pc.grps)) npn) :: PL) H' ∧
    V' = [some (.ref sc), some (.ref fa), some (.ref bx), some (.bool low), some (.str (S (tailL tail)) tt), some (.ref pl), some (.ref pn), some (.int (sizes (allG (prs ps)) : Nat) ts), q8, q9, q10, q11, q12, q13, q14, q15, q16, q17, q18, q19, q20, none, none, none, none, none, none, none, none, none, none, none, none, none, none, none, none, none, none, none, none]) ?_ ?_)))
  · walk_at "ww"
    ktf_call 553
    walk_at "ww"
    refine w_draw hd3 (R := [(pn, listO [] 0), (pl, listO [] 0)]) (by exact .take (.there (.there .here)) (.take (.there (.there .here)) .rfl)) (by decide) (by omega) fun ob4 t5 many hmany hd4 => ?_
    walk_at "ww"
    rw [show (2 : Int) + (many : Int) = ((2 + many : Nat) : Int) by omega]
    have hm4 : 2 + many ≤ 4 := by omega
    refine w_range1 fun ra r1 r2 r3 => ?_
    refine w_iter_range (by omega) (by omega) (.inl (.head _)) fun it => ?_
    refine Loop.sub (H' := (it, _) :: (bx, ob4) :: (fa, ofew) :: (pl, listO (prefs []) 0) :: (pn, listO (refs ([] : List Grp)) 0) :: []) (by exact .take .here (.skip (.take .here (.take .here (.take (.there .here) (.take .here .nil)))))) ?_
    refine loop_range (fun i V H => ∃ (ob : Obj) (ps : List Pc) (PL : Led) (npl npn : Nat) (ts : Tok) (q8 q9 q10 q11 q12 q13 q14 q15 q16 q17 q18 q19 q20 : Option Value), Drw bx fa ob ofew ∧ ps.length = i ∧ Built low PL ps ∧ H = (bx, ob) :: (fa, ofew) :: (pl, listO (prefs ps) npl) :: (pn, listO (refs (ps.flatMap Pc.grps)) npn) :: PL ∧
      V = [some (.ref sc), some (.ref fa), some (.ref bx), some (.bool low), some (.str (S (tailL tail)) tt), some (.ref pl), some (.ref pn), some (.int (sizes (allG (prs ps)) : Nat) ts), q8, q9, q10, q11, q12, q13, q14, q15, q16, q17, q18, q19, q20, none, none, none, none, none, none, none, none, none, none, none, none, none, none, none, none, none, none, none, none])
      ⟨ob4, [], [], 0, 0, tspan, none, none, none, none, none, none, none, none, none, none, none, none, none, hd4, rfl, ⟨(fun _ _ h => nomatch h), ⟨(fun _ h => nomatch h), by decide⟩⟩, rfl, rfl⟩ ?_ ?_
    · rintro i V H tk hi ⟨ob, ps, PL, npl, npn, ts0, q8, q9, q10, q11, q12, q13, q14, q15, q16, q17, q18, q19, q20, hdr, hpsl, hbu, rfl, rfl⟩
      generalize rangeItO ((i : Int) + 1) (((2 + many : Nat) : Int) - (i : Int) - 1) = ro
      have hfac := Pcs.facts hbu.pcs.part
      have hpl2 : (prs ps).length ≤ 4 := hbu.pcs.few
      have hszA : sizes (allG (prs ps)) ≤ 240 := by have := hfac.2.2.2.2.1; omega
      walk_at "ww"
      rename_i tf
      refine w_newList (fun mn => ?_) (line_le (by simp))
      walk_at "ww"
      ktf_call 553
      walk_at "ww"
      refine w_draw hdr (R := (mn, listO [] 0) :: (it, ro) :: (pl, listO (prefs ps) npl) :: (pn, listO (refs (ps.flatMap Pc.grps)) npn) :: PL) (by exact .take (.there (.there .here)) (.take (.there (.there .here)) .rfl)) (by omega) (by omega) fun ob5 t6 mk hmk hd5 => ?_
      walk_at "ww"
      rw [show (1 : Int) + (mk : Int) = ((1 + mk : Nat) : Int) by omega]
      have hmk3 : 1 + mk ≤ 2 := by omega
      refine w_range1 fun rb s1 s2 s3 => ?_
      refine w_iter_range (by omega) (by omega) (.inl (.head _)) fun it2 => ?_
      obtain ⟨R1, hR1⟩ : ∃ R1, R1 = (it, ro) :: (pl, listO (prefs ps) npl) :: (pn, listO (refs (ps.flatMap Pc.grps)) npn) :: PL := ⟨_, rfl⟩
      rw [← hR1]
      refine Loop.sub (H' := (it2, _) :: (bx, ob5) :: (fa, ofew) :: (mn, listO (refs ([] : List Grp)) 0) :: ([] ++ R1)) (by exact .take .here (.skip .rfl)) ?_
      refine loop_range (fun k V H => ∃ (ob : Obj) (fs : List Fi) (gg : List Grp) (GL : Led) (n : Nat) (order : Bool) (tf ts : Tok) (qk q13 q14 q15 q16 q17 q18 q19 q20 : Option Value), Drw bx fa ob ofew ∧ fs.length = k ∧ Part fs (gg.map Grp.g) order ∧ (fs ≠ [] → ∃ to, q15 = some (.str (S [ordCh order]) to)) ∧ (fmtL fs).length ≤ 6 * k ∧
        (∀ x ∈ gg, (x.a, tupO x.vs) ∈ GL) ∧ H = (bx, ob) :: (fa, ofew) :: (mn, listO (refs gg) n) :: (GL ++ R1) ∧
        V = [some (.ref sc), some (.ref fa), some (.ref bx), some (.bool low), some (.str (S (tailL tail)) tt), some (.ref pl), some (.ref pn), some (.int ((sizes (allG (prs ps)) + sizes (gg.map Grp.g) : Nat) : Int) ts), some (.int i tk), some (.str (S (fmtL fs)) tf), some (.ref mn), some (.int (sizes (allG (prs ps)) : Nat) ts0), qk, q13, q14, q15, q16, q17, q18, q19, q20, none, none, none, none, none, none, none, none, none, none, none, none, none, none, none, none, none, none, none, none])
        ⟨ob5, [], [], [], 0, false, tf, ts0, q12, q13, q14, q15, q16, q17, q18, q19, q20, hd5, rfl, Part.nil _, (fun h => absurd rfl h), Nat.zero_le _, (fun _ h => nomatch h), rfl, rfl⟩ ?_ ?_
      · rintro k V H tkk hk ⟨ob, fs, gg, GL, n, order, tf, ts, qk, q13, q14, q15, q16, q17, q18, q19, q20, hdr, hfl, hpart, hord, hflen, hGL, rfl, rfl⟩
        generalize rangeItO ((k : Int) + 1) (((1 + mk : Nat) : Int) - (k : Int) - 1) = ro2
        walk_at "ww"
        rename_i tkc
        ktf_call 553
        walk_at "ww"
        refine w_draw hdr (R := (it2, ro2) :: (mn, listO (refs gg) n) :: (GL ++ R1)) (by exact .take (.there .here) (.take (.there .here) .rfl)) (by omega) (by omega) fun ob6 t7 kd hkd hd6 => ?_
        obtain ⟨kind, hkind, hkm⟩ : ∃ kind, [117, 115, 98, 114, 116, 112, 80][kd]? = some kind ∧ kind ∈ [117, 115, 98, 114, 116, 112, 80] := ⟨[117, 115, 98, 114, 116, 112, 80][kd]'(by show kd < 7; omega), List.getElem?_eq_getElem _, List.getElem_mem _⟩
        refine w_item_S (c := kind) (by omega) (item_at (i := kd) hkind) fun t8 => ?_
        walk_at "ww"
        rename_i u1 u2 u3
        refine w_newTuple (fun st => ?_) (line_le (by simp))
        walk_at "ww"
        ktf_call 553
        walk_at "ww"
        refine w_min2 fun t9 => ?_
        walk_at "ww"
        refine w_draw hd6 (R := (st, tupO [.str (S [62]) u1, .str (S [60]) u2, .str (S []) u3]) :: (it2, ro2) :: (mn, listO (refs gg) n) :: (GL ++ R1)) (by exact .take (.there .here) (.take (.there .here) .rfl)) (by omega) (by omega) fun ob7 t10 sd hsd hd7 => ?_
        obtain ⟨sg, tsg, hsg, hsn⟩ : ∃ (sg : Option Bool) (tsg : Tok), [Value.str (S [62]) u1, .str (S [60]) u2, .str (S []) u3][sd]? = some (.str (S (sgL sg)) tsg) ∧ (sg = none → 1 ≤ k) := by
          have h3 : sd = 0 ∨ sd = 1 ∨ sd = 2 := by omega
          rcases h3 with rfl | rfl | rfl
          · exact ⟨some false, u1, rfl, fun h => nomatch h⟩
          · exact ⟨some true, u2, rfl, fun h => nomatch h⟩
          · exact ⟨none, u3, rfl, fun _ => by omega⟩
        refine w_itup (.inl (.tail _ (.tail _ (.head _)))) (i := sd) (x := .str (S (sgL sg)) tsg) rfl hsg (by omega) ?_
        refine w_drop' (H' := (bx, ob7) :: (fa, ofew) :: (it2, ro2) :: (mn, listO (refs gg) n) :: (GL ++ R1)) (by exact .take .here (.take .here (.skip .rfl))) ?_
        walk_at "ww"
        have hk0 : fs ≠ [] ↔ 1 ≤ k := by
          rw [← hfl]
          cases fs with
          | nil => simp
          | cons a r => simp
        refine w_IfJ (fun V H => H = (bx, ob7) :: (fa, ofew) :: (it2, ro2) :: (mn, listO (refs gg) n) :: (GL ++ R1) ∧ ∃ (order' : Bool) (to : Tok), (sg = some order' ∨ (sg = none ∧ fs ≠ [] ∧ order = order')) ∧
          V = [some (.ref sc), some (.ref fa), some (.ref bx), some (.bool low), some (.str (S (tailL tail)) tt), some (.ref pl), some (.ref pn), some (.int ((sizes (allG (prs ps)) + sizes (gg.map Grp.g) : Nat) : Int) ts), some (.int i tk), some (.str (S (fmtL fs)) tf), some (.ref mn), some (.int (sizes (allG (prs ps)) : Nat) ts0), some (.int k tkk), some (.str (S [kind]) t8), some (.str (S (sgL sg)) tsg), some (.str (S [ordCh order']) to), q16, q17, q18, q19, q20, none, none, none, none, none, none, none, none, none, none, none, none, none, none, none, none, none, none, none, none]) ?_ ?_
        · walk_at "ww"
          cases sg with
          | none =>
            refine ⟨(fun h => nomatch h), fun _ => ?_⟩
            obtain ⟨to, rfl⟩ := hord (hk0.mpr (hsn rfl))
            walk_at "ww"
            exact ⟨rfl, rfl, order, to, .inr ⟨rfl, hk0.mpr (hsn rfl), rfl⟩, rfl⟩
          | some b =>
            refine ⟨fun _ => ?_, fun h => ?_⟩
            · walk_at "ww"
              exact ⟨rfl, rfl, b, tsg, .inl rfl, rfl⟩
            · exact absurd h (by simp [sgL])
        rintro V H ⟨rfl, order', to, hor, rfl⟩
        walk_at "ww"
        ktf_call 553
        walk_at "ww"
        refine w_draw hd7 (R := (it2, ro2) :: (mn, listO (refs gg) n) :: (GL ++ R1)) (by exact .rfl) (by omega) (by omega) fun ob8 t11 wide hwide hd8 => ?_
        walk_at "ww"
        ktf_call 581
        walk_at "ww"
        ktf_call 553
        walk_at "ww"
        refine w_draw hd8 (R := (it2, ro2) :: (mn, listO (refs gg) n) :: (GL ++ R1)) (by exact .rfl) (by omega) (by omega) fun ob9 t12 drawn hdrawn hd9 => ?_
        walk_at "ww"
        refine w_sp (P := []) (field_sp hkm) (by omega) .rfl (fun _ _ => trivial) ?_
        rintro v P' ⟨fa2, size, num, val, back, t13, t14, v1, v2, hFG, hv1, hv2, rfl, rfl⟩
        refine w_assign_Tup (vs := [.int (size : Nat) t13, .int (num : Nat) t14, v1, v2]) (.inl (.head _)) (by kernel_rfl) (by kernel_rfl) ?_
        refine w_drop' (H' := (bx, ob9) :: (fa, ofew) :: (it2, ro2) :: (mn, listO (refs gg) n) :: (GL ++ R1)) (by exact .skip .rfl) ?_
        walk_at "ww"
        refine w_newTuple (fun ga => ?_) (line_le (by simp))
        have hgl : gg.length ≤ 2 := by have := hpart.len; rw [List.length_map] at this; omega
        walk_at "ww"
        refine w_append (l := mn) (vs := refs gg) (n := n) (.tail (.tail (.tail (.tail .head)))) (by unfold refs; rw [List.length_map]; omega) ?_
        walk_at "ww"
        have hsgl : (sgL sg).length ≤ 1 := by
          cases sg with
          | none => exact Nat.zero_le _
          | some b => exact Nat.le_refl _
        refine w_add_S (by omega) fun a1 => ?_
        walk_at "ww"
        refine w_add_S (by rw [List.length_append]; simp; omega) fun a2 => ?_
        walk_at "ww"
        have hszb : 1 ≤ size ∧ size ≤ 24 := by
          have : ∀ {kd size num : Nat} {val back : PV}, FG kd size num val back → 1 ≤ size ∧ size ≤ 24 := by
            intro kd size num val back hg
            cases hg <;> omega
          exact this hFG
        refine w_str_int rfl (by omega) fun a3 => ?_
        have hdl : (decL size).length ≤ 2 := (by decide +kernel : ∀ s, s < 30 → (decL s).length ≤ 2) size (by omega)
        refine w_add_S (by rw [List.length_append, List.length_append]; simp; omega) fun a4 => ?_
        walk_at "ww"
        rename_i y1 y2
        refine w_newTuple (fun sp2 => ?_) (line_le (by simp))
        walk_at "ww"
        refine w_mod_int (by decide) fun a5 => ?_
        obtain ⟨spb, tsp, hspb⟩ : ∃ (b : Bool) (tsp : Tok), [Value.str (S []) y1, .str (S [32]) y2][wide % 2]? = some (.str (S (if b = true then [32] else [])) tsp) := by
          rcases Nat.mod_two_eq_zero_or_one wide with h | h
          · exact ⟨false, y1, by rw [h]; rfl⟩
          · exact ⟨true, y2, by rw [h]; rfl⟩
        rw [show (wide : Int) % 2 = ((wide % 2 : Nat) : Int) by omega]
        refine w_itup (.inl (.head _)) (i := wide % 2) (x := .str (S (if spb = true then [32] else [])) tsp) rfl hspb (by omega) ?_
        refine w_add_S (by rw [List.length_append, List.length_append, List.length_append]; split <;> simp <;> omega) fun a6 => ?_
        walk_at "ww"
        rename_i a7
        obtain ⟨x, hx⟩ : ∃ x : Grp, x = ⟨ga, [.str (S [kind]) t8, .str (S [ordCh order']) to, .int (size : Nat) t13, .int (num : Nat) t14, v1, v2], ⟨kind, order', size, num, val, back⟩, ⟨t8, to, t13, t14, v1, v2, rfl, hv1, hv2⟩⟩ := ⟨_, rfl⟩
        obtain ⟨f, hf⟩ : ∃ f : Fi, f = ⟨sg, kind, size, spb⟩ := ⟨_, rfl⟩
        have hfOk : f.Ok := by
          rw [hf]
          refine ⟨?_, hszb.1, by show size < 30; omega⟩
          show kind ∈ _
          simp only [List.mem_cons, List.not_mem_nil, or_false] at hkm ⊢
          omega
        have hxOk : x.g.Ok := by rw [hx]; exact hFG
        have hpart2 : Part (fs ++ [f]) ((gg ++ [x]).map Grp.g) order' := by
          rw [List.map_append]
          exact hpart.snoc hfOk hxOk (by rw [hx, hf]) (by rw [hx, hf]) (by rw [hx]) (by rw [hf]; exact hor)
        have hfl2 : fmtL (fs ++ [f]) = fmtL fs ++ sgL sg ++ [kind] ++ decL size ++ (if spb = true then [32] else []) := by rw [fmt_snoc, hf]
        have hsz2 : sizes ((gg ++ [x]).map Grp.g) = sizes (gg.map Grp.g) + size := by rw [List.map_append, sizes_append, hx]; rfl
        have hrefs : refs (gg ++ [x]) = refs gg ++ [.ref ga] := by unfold refs; rw [List.map_append, hx]; rfl
        have hxa : (x.a, tupO x.vs) = (ga, tupO [.str (S [kind]) t8, .str (S [ordCh order']) to, .int (size : Nat) t13, .int (num : Nat) t14, v1, v2]) := by rw [hx]
        refine ⟨(bx, ob9) :: (fa, ofew) :: (mn, listO (refs gg ++ [.ref ga]) (n + 1)) :: (((x.a, tupO x.vs) :: GL) ++ R1), ?_, ob9, fs ++ [f], gg ++ [x], (x.a, tupO x.vs) :: GL, n + 1, order', a6, a7, some (.int k tkk), some (.str (S [kind]) t8), some (.str (S (sgL sg)) tsg), some (.str (S [ordCh order']) to), some (.int wide t11), some (.int size t13), some (.int num t14), some v1, some v2, hd9, by rw [List.length_append, hfl]; rfl, hpart2, fun _ => ⟨to, rfl⟩, ?_, ?_, by rw [hrefs], ?_⟩
        · rw [hxa]
          exact .skip (.take (.there (.there (.there .here))) (.take (.there .here) (.take (.there .here) (.take (.there .here) .rfl))))
        · rw [hfl2]
          simp only [List.length_append, List.length_cons, List.length_nil]
          split <;> simp <;> omega
        · intro y hy
          rcases List.mem_append.mp hy with q | q
          · exact .tail _ (hGL y q)
          · rw [List.mem_singleton.mp q]; exact .head _
        · rw [hfl2, hsz2, show ((sizes (allG (prs ps)) + (sizes (gg.map Grp.g) + size) : Nat) : Int) = ((sizes (allG (prs ps)) + sizes (gg.map Grp.g) : Nat) : Int) + (size : Int) by omega]
      · rintro V H ⟨ob, fs, gg, GL, n, order, tf, ts, qk, q13, q14, q15, q16, q17, q18, q19, q20, hdr, hfl, hpart, hord, hflen, hGL, rfl, rfl⟩
        have hgl : gg.length ≤ 2 := by have := hpart.len; rw [List.length_map] at this; omega
        have hfne : fs ≠ [] := by intro e; rw [e] at hfl; simp at hfl; omega
        have hszg : sizes (gg.map Grp.g) ≤ 48 := by have := sizes_le _ hpart.grp; rw [List.length_map] at this; omega
        have hal := hfac.2.2.2.2.2.2
        obtain ⟨to, rfl⟩ := hord hfne
        refine seq_next (w_cons (w_IfJ (fun V H => ∃ (fs : List Fi) (gg : List Grp) (GL : Led) (n : Nat) (tf ts : Tok) (qk q13 q14 q15 q16 q17 q18 q19 q20 : Option Value), Part fs (gg.map Grp.g) order ∧ fs ≠ [] ∧ gg.length ≤ 3 ∧ (fmtL fs).length ≤ 18 ∧ sizes (gg.map Grp.g) ≤ 60 ∧ (low = true → sizes (gg.map Grp.g) % 8 = 0) ∧
          (∀ x ∈ gg, (x.a, tupO x.vs) ∈ GL) ∧ H = (bx, ob) :: (fa, ofew) :: (mn, listO (refs gg) n) :: (GL ++ R1) ∧
          V = [some (.ref sc), some (.ref fa), some (.ref bx), some (.bool low), some (.str (S (tailL tail)) tt), some (.ref pl), some (.ref pn), some (.int ((sizes (allG (prs ps)) + sizes (gg.map Grp.g) : Nat) : Int) ts), some (.int i tk), some (.str (S (fmtL fs)) tf), some (.ref mn), some (.int (sizes (allG (prs ps)) : Nat) ts0), qk, q13, q14, q15, q16, q17, q18, q19, q20, none, none, none, none, none, none, none, none, none, none, none, none, none, none, none, none, none, none, none, none]) ?_ ?_))
        · walk_at "ww"
          refine ⟨fun hlo2 => ?_, fun hlo2 => ?_⟩
          · refine w_isTrue_and ?_
            walk_at "ww"
            refine w_mod_int (by decide) fun a1 => ?_
            walk_at "ww"
            refine ⟨fun hgt => ?_, fun hgt => ?_⟩
            · refine w_isTrue_and_nil ?_
              refine ⟨fun _ => ?_, fun h => nomatch h⟩
              walk_at "ww"
              refine w_mod_int (by decide) fun a2 => ?_
              walk_at "ww"
              rename_i tk1 tksz tk0
              obtain ⟨size, hsize⟩ : ∃ size : Nat, size = 8 - (sizes (allG (prs ps)) + sizes (gg.map Grp.g)) % 8 := ⟨_, rfl⟩
              have hlt := of_decide_eq_true hgt
              have hal3 := hal hlo2
              have hszb : 1 ≤ size ∧ size ≤ 7 ∧ (sizes (gg.map Grp.g) + size) % 8 = 0 := by omega
              rw [show (8 : Int) - ((sizes (allG (prs ps)) + sizes (gg.map Grp.g) : Nat) : Int) % 8 = (size : Int) by omega]
              refine w_newTuple (fun ga => ?_) (line_le (by simp))
              walk_at "ww"
              refine w_append (l := mn) (vs := refs gg) (n := n) (.tail (.tail (.tail .head))) (by unfold refs; rw [List.length_map]; omega) ?_
              refine w_drop' (H' := (bx, ob) :: (fa, ofew) :: (mn, listO (refs gg ++ [.ref ga]) (n + 1)) :: (((ga, tupO [.str (S [112]) tksz, .str (S [ordCh order]) to, .int (size : Nat) tk1, .int (0 : Nat) tk0, .none, .none]) :: GL) ++ R1)) (by exact .take (.there .here) (.take (.there .here) (.take (.there .here) .rfl))) ?_
              walk_at "ww"
              refine w_add_S (by show (fmtL fs).length + 1 ≤ _; omega) fun a3 => ?_
              walk_at "ww"
              refine w_str_int rfl (by omega) fun a4 => ?_
              have hdl : (decL size).length ≤ 2 := (by decide +kernel : ∀ s, s < 30 → (decL s).length ≤ 2) size (by omega)
              refine w_add_S (by rw [List.length_append]; simp; omega) fun a5 => ?_
              walk_at "ww"
              rename_i a6
              obtain ⟨x, hx⟩ : ∃ x : Grp, x = ⟨ga, [.str (S [112]) tksz, .str (S [ordCh order]) to, .int (size : Nat) tk1, .int (0 : Nat) tk0, .none, .none], ⟨112, order, size, 0, .none, .none⟩, ⟨tksz, to, tk1, tk0, .none, .none, rfl, rfl, rfl⟩⟩ := ⟨_, rfl⟩
              obtain ⟨f, hf⟩ : ∃ f : Fi, f = ⟨none, 112, size, false⟩ := ⟨_, rfl⟩
              have hfOk : f.Ok := by
                rw [hf]
                exact ⟨(by decide : (112 : Nat) ∈ [115, 117, 98, 114, 116, 112, 80]), hszb.1, by show size < 30; omega⟩
              have hxOk : x.g.Ok := by rw [hx]; show FG 112 size 0 .none .none; exact FG.p hszb.1 (by omega)
              have hpart2 : Part (fs ++ [f]) ((gg ++ [x]).map Grp.g) order := by
                rw [List.map_append]
                exact hpart.snoc hfOk hxOk (by rw [hx, hf]) (by rw [hx, hf]) (by rw [hx]) (.inr ⟨by rw [hf], hfne, rfl⟩)
              have hfl2 : fmtL (fs ++ [f]) = fmtL fs ++ [112] ++ decL size := by rw [fmt_snoc, hf]; simp [sgL]
              have hsz2 : sizes ((gg ++ [x]).map Grp.g) = sizes (gg.map Grp.g) + size := by rw [List.map_append, sizes_append, hx]; rfl
              have hrefs : refs (gg ++ [x]) = refs gg ++ [.ref ga] := by unfold refs; rw [List.map_append, hx]; rfl
              have hxa : (x.a, tupO x.vs) = (ga, tupO [.str (S [112]) tksz, .str (S [ordCh order]) to, .int (size : Nat) tk1, .int (0 : Nat) tk0, .none, .none]) := by rw [hx]
              refine ⟨rfl, fs ++ [f], gg ++ [x], (x.a, tupO x.vs) :: GL, n + 1, a5, a6, qk, q13, q14, some (.str (S [ordCh order]) to), q16, some (.int size tk1), q18, q19, q20, hpart2, by simp, by rw [List.length_append, List.length_singleton]; omega, ?_, by rw [hsz2]; omega, fun _ => by rw [hsz2]; exact hszb.2.2, ?_, by rw [hrefs, hxa], ?_⟩
              · rw [hfl2, List.length_append, List.length_append]
                show (fmtL fs).length + 1 + _ ≤ 18
                omega
              · intro y hy
                rcases List.mem_append.mp hy with q | q
                · exact .tail _ (hGL y q)
                · rw [List.mem_singleton.mp q]; exact .head _
              · rw [hfl2, hsz2, show ((sizes (allG (prs ps)) + (sizes (gg.map Grp.g) + size) : Nat) : Int) = ((sizes (allG (prs ps)) + sizes (gg.map Grp.g) : Nat) : Int) + (size : Int) by omega]
            · refine ⟨(fun h => nomatch h), fun _ => ?_⟩
              walk_at "ww"
              exact ⟨rfl, fs, gg, GL, n, tf, ts, qk, q13, q14, _, q16, q17, q18, q19, q20, hpart, hfne, by omega, by omega, by omega, (fun h => by have := hal h; have := of_decide_eq_false hgt; omega), hGL, rfl, rfl⟩
          · refine ⟨(fun h => nomatch h), fun _ => ?_⟩
            walk_at "ww"
            exact ⟨rfl, fs, gg, GL, n, tf, ts, qk, q13, q14, _, q16, q17, q18, q19, q20, hpart, hfne, by omega, by omega, by omega, (fun h => by rw [h] at hlo2; cases hlo2), hGL, rfl, rfl⟩
        rintro V H ⟨fs, gg, GL, n, tf, ts, qk, q13, q14, q15, q16, q17, q18, q19, q20, hpart, hfne, hgl, hflen, hszg, hal2, hGL, rfl, rfl⟩
        rw [hR1]
        refine seq_next ?_
        refine w_drop' (H' := (pl, listO (prefs ps) npl) :: (pn, listO (refs (ps.flatMap Pc.grps)) npn) :: (it, ro) :: (bx, ob) :: (fa, ofew) :: (mn, listO (refs gg) n) :: (GL ++ PL)) (by
          exact .take (.there (.there (.there (Tk.app (.there .here))))) (.take (.there (.there (.there (Tk.app (.there .here))))) (.take (.there (.there (.there (Tk.app .here)))) (.take .here (.take .here (.take .here .rfl)))))) ?_
        walk_at "ww"
        refine w_newTuple (fun tp => ?_) (line_le (by simp))
        walk_at "ww"
        refine w_append (l := pl) (vs := prefs ps) (n := npl) (.tail .head) (by unfold prefs; rw [List.length_map]; omega) ?_
        walk_at "ww"
        refine w_extend (ws := refs gg) (m := n) (.inl (by tbr_iter (List.Mem.head _))) (fun o' => .tail (.tail .head)) (by have e1 := hfac.2.2.2.1; have e2 : (allG (prs ps)).length = (ps.flatMap Pc.grps).length := (by rw [show allG (prs ps) = (ps.flatMap Pc.grps).map Grp.g from (by unfold allG prs; rw [List.flatMap_map, List.map_flatMap]), List.length_map]); unfold refs; rw [List.length_map, List.length_map]; omega) fun n' => ?_
        walk_at "ww"
        obtain ⟨p, hp⟩ : ∃ p : Pc, p = ⟨tp, mn, n, tf, ts0, fs, gg⟩ := ⟨_, rfl⟩
        have hprs : prs (ps ++ [p]) = prs ps ++ [(fs, gg.map Grp.g)] := by unfold prs; rw [List.map_append, hp]; rfl
        have hallG : allG (prs (ps ++ [p])) = allG (prs ps) ++ gg.map Grp.g := by rw [hprs]; unfold allG; rw [List.flatMap_append]; simp
        have hvs : p.vs (sizes (allG (prs ps))) = [.str (S (fmtL fs)) tf, .int (sizes (allG (prs ps)) : Nat) ts0, .ref mn] := by rw [hp]; rfl
        have hbu2 : Built low ((tp, tupO (p.vs (sizes (allG (prs ps))))) :: (mn, listO (refs gg) n) :: (GL ++ PL)) (ps ++ [p]) := by
          refine ⟨fun j q hj => ?_, ⟨fun q hq => ?_, ?_⟩⟩
          · by_cases hj2 : j < ps.length
            · rw [List.getElem?_append_left hj2] at hj
              obtain ⟨e1, e2, e3⟩ := hbu.at_ j q hj
              rw [List.take_append_of_le_length (by omega)]
              exact ⟨.tail _ (.tail _ (List.mem_append_right _ e1)), .tail _ (.tail _ (List.mem_append_right _ e2)), fun x hx => .tail _ (.tail _ (List.mem_append_right _ (e3 x hx)))⟩
            · have hj' := (List.getElem?_eq_some_iff.mp hj).1
              rw [List.length_append, List.length_singleton] at hj'
              have hje : j = ps.length := by omega
              rw [hje, List.getElem?_append_right (Nat.le_refl _), Nat.sub_self] at hj
              have hq : p = q := by simpa using hj
              rw [hje, List.take_append_of_le_length (Nat.le_refl _), List.take_length, ← hq, hp]
              exact ⟨.head _, .tail _ (.head _), fun x hx => .tail _ (.tail _ (List.mem_append_left _ (hGL x hx)))⟩
          · rw [hprs] at hq
            rcases List.mem_append.mp hq with h | h
            · exact hbu.pcs.part q h
            · rw [List.mem_singleton.mp h]
              exact ⟨⟨order, hpart⟩, hfne, by show (gg.map Grp.g).length ≤ 3; rw [List.length_map]; exact hgl, hszg, by show (fmtL fs).length ≤ 20; omega, hal2⟩
          · rw [hprs, List.length_append, List.length_map]
            show ps.length + 1 ≤ 4
            omega
        refine ⟨(bx, ob) :: (fa, ofew) :: (pl, listO (prefs (ps ++ [p])) (npl + 1)) :: (pn, listO (refs ((ps ++ [p]).flatMap Pc.grps)) n') :: ((tp, tupO (p.vs (sizes (allG (prs ps))))) :: (mn, listO (refs gg) n) :: (GL ++ PL)), ?_, ob, ps ++ [p], _, npl + 1, n', ts, some (.int i tk), some (.str (S (fmtL fs)) tf), some (.ref mn), some (.int (sizes (allG (prs ps)) : Nat) ts0), qk, q13, q14, q15, q16, q17, q18, q19, q20, hdr, by rw [List.length_append, hpsl]; rfl, hbu2, rfl, ?_⟩
        · have hpre : prefs (ps ++ [p]) = prefs ps ++ [.ref tp] := by rw [hp]; unfold prefs; rw [List.map_append]; rfl
          have hrf : refs ((ps ++ [p]).flatMap Pc.grps) = refs (ps.flatMap Pc.grps) ++ refs gg := by rw [hp, List.flatMap_append]; unfold refs; rw [List.map_append]; simp
          rw [hpre, hrf, hvs]
          exact .take (.there (.there (.there .here))) (.take (.there (.there (.there .here))) (.take (.there (.there (.there .here))) (.take (.there .here) (.take (.there .here) (.take .here (.take .here .rfl))))))
        · rw [hallG, sizes_append]
    · rintro V H ⟨ob, ps, PL, npl, npn, ts, q8, q9, q10, q11, q12, q13, q14, q15, q16, q17, q18, q19, q20, hdr, hpsl, hbu, rfl, rfl⟩
      walk_at "ww"
      exact ⟨rfl, ob, ps, PL, npl, npn, ts, q8, q9, q10, q11, q12, q13, q14, q15, q16, q17, q18, q19, q20, hdr, (by intro e; rw [e] at hpsl; simp at hpsl; omega), hbu, .rfl, rfl⟩
  rintro f V' H' ⟨rfl, ob, ps, PL, npl, npn, ts, q8, q9, q10, q11, q12, q13, q14, q15, q16, q17, q18, q19, q20, hdr, hne, hbu, hsub3, rfl⟩
  exact seqn_next (n_drop' hsub3 (law_B (w := w) hbu hne htl hdr rfl C hn hfr hA))
-- part J1
/-! the join: the call of the claim is the law's body, run on a list of ints -/
theorem intL_of_are : ∀ {vs : List Value} {ns : List Int}, IntsAre vs ns → IntL vs ns
  | _, _, .nil => ⟨rfl, fun _ _ h => nomatch h⟩
  | _, _, .cons n t r => by
    have ih := intL_of_are r
    refine ⟨by rw [List.length_cons, List.length_cons, ih.1], fun i m hm => ?_⟩
    cases i with
    | zero => exact ⟨t, by cases hm; rfl⟩
    | succ i => exact ih.2 i m hm
/-- the body, as the activation sees it -/
noncomputable abbrev LawBody : Prop := ∀ (w : World) (sc : Addr) (osc : Obj) (svals : List Value) (sns : List Int) (C : Cx fn_law), 20 ≤ C.n → C.env.frame = some C.L → C.A.frames = some [C.env] → C.h₀.get? sc = some osc → LO osc svals → IntL svals sns → svals.length ≤ 100 →
    N C (execs (bodyOf (fdAt 598)) C.env) (some (.ref sc) :: List.replicate 40 none) [] (fun f _ _ => f = .ret (.bool true))

noncomputable def lawCx {w : World} {s : Shared} (B : Base w s.heap) : Cx fn_law :=
  { w, A := callerA.deeper (callEnv fn_law.fd s.heap.objs.size 598), L := s.heap.objs.size, h₀ := s.heap, g₀ := s.gens, os₀ := s.os, n := 20, aok := ⟨rfl, Nat.le_of_ble_eq_true rfl, Nat.le_of_ble_eq_true rfl, ⟨_, rfl⟩, rfl⟩, base := B }

theorem law_code (lawA : LawBody) {w : World} {s : Shared} (B : Base w s.heap) {sc : Addr} {osc : Obj} {svals : List Value} {sns : List Int} (hsc : s.heap.get? sc = some osc) (lo : LO osc svals) (hi : IntL svals sns) (hsl : svals.length ≤ 100) :
    codeN (model prog w) callerA (.call (.ref 598) ⟨[.ref sc], []⟩) (fun r s' => r = .ok (.ret (.bool true)) ∧ (∀ b o, s.heap.get? b = some o → s'.heap.get? b = some o) ∧ s'.os = s.os ∧ GensOk s.gens s'.gens) s := by
  have hF := law_is w
  refine codeN_of_tree ?_
  show wpN _ callerA.in1 (callAny (.ref 598) ⟨[.ref sc], []⟩) _ _ s
  refine wpN_any (tree_call_made (body := bodyOf (fdAt 598)) (os := []) (binds := fun _ => (fn_law.names.take 1).zip [.ref sc]) (by decide) (B.kin _ _ hF.at_) rfl B.lim (codeRec_of B.kin hF.cd) (by kernel_rfl) (BindsMade.of_eq (by kernel_rfl))
    (fun x hx e => by have := List.all_eq_true.mp hF.cell x hx; rw [e] at this; cases this) (fun x hx => hF.ok.loc _ (List.mem_of_mem_take (List.of_mem_zip (a := x.1) (b := x.2) hx).1)) hF.co (by kernel_rfl) hF.ok.kind (fun h₁ hns hkk => ?_))
  refine ⟨rfl, rfl, codeN_func ?_⟩
  have e : (fun x => ((fn_law.names.take 1).zip [Value.ref sc]).reverse.lookup x) = slot fn_law.names (some (.ref sc) :: List.replicate 40 none) := funext fun x => revlook (x := x) (args := [.ref sc]) hF.ok.nd (Nat.le_of_ble_eq_true rfl)
  rw [e] at hns
  have v : Vw (lawCx B) (some (.ref sc) :: List.replicate 40 none) [] { s with heap := h₁, toks := s.toks + ((fn_law.names.take 1).zip [Value.ref sc]).length } :=
    ⟨⟨hns, fun b o e => hkk b o e, Nat.le_refl _⟩, (fun _ h => nomatch h), List.nodup_nil, .refl _, rfl⟩
  have key := (lawA w sc osc svals sns (lawCx B) (Nat.le_of_ble_eq_true rfl) rfl rfl hsc lo hi hsl).run _ v
  exact wpN_mono key (fun f s' ⟨V', H', v', q⟩ => by subst q; exact ⟨rfl, v'.fr.keep, v'.os, v'.gens⟩) fun _ _ x => x

theorem law_holds (lawA : LawBody) : PySem.Challenge.rw_bk5009_01.Holds := by
  refine hd ?_
  k_fill
  intro w s₀ s₁ mg mb G Y fa o pm cd doc dV kV ho hd hcd hD hmg hg args vals as hpre hlay hrd hwl hlo
  have KX : (KF w).In s₁.heap := kIn_of Y
  refine Ground.open G ?_
  intro T _ _ _ _
  have B : Base w s₁.heap := ⟨KX, ⟨mb, T.b, T.builtins⟩, T.nolimit, ⟨mg, T.g⟩⟩
  wrow_args hpre hlay hrd hwl hlo
  rename_i sns _ _ _ _ _ _ sc svals _ hL _ _ _ hI _ hlen _
  have hfa : fa = 598 := by
    have h1 := mg_of KX T.g (n := Str.ofString "law") (v := .ref 598) (by kernel_rfl)
    have h2 : mg (Str.ofString "law") = some (.ref fa) := hmg
    rw [h1] at h2
    injection h2 with h2
    injection h2 with h2
    exact h2.symm
  subst hfa
  obtain ⟨osc, hosc, hcls, n, hdat⟩ := hL
  have lo : LO osc svals := ⟨hcls, n, hdat⟩
  have hi := intL_of_are hI
  intro p
  refine Sem.wp_mono _ _ _ (fun v p' s' h => ?_) (fun _ _ _ h => h.elim) p s₁ (wpN_call (A := callerA) (E := fun _ _ => False) (Q := fun v s' => v = .bool true ∧ (∀ b o, s₁.heap.get? b = some o → s'.heap.get? b = some o) ∧ s'.os = s₁.os ∧ GensOk s₁.gens s'.gens)
    (codeN_mono (law_code lawA B hosc lo hi (by have := hi.1; omega)) fun r s' z => by obtain ⟨rfl, z⟩ := z; exact ⟨rfl, z⟩) Γc p caller_in ⟨by decide⟩)
  obtain ⟨rfl, hk, hos, hgo⟩ := h
  refine ⟨.inl ⟨.bool true, .bool true, [], rfl, raisesW_false (by wrow_none_raised), .bool true, by wrow_post, fun _ => ⟨List.nodup_nil, fun _ h => nomatch h⟩⟩, OldK.of_keep hk, hos, hgo.allBare (by rw [hg]; intro x hx; simp at hx)⟩
end Mine
theorem PySem.Challenge.cw_bk5009_01_holds : PySem.Challenge.rw_bk5009_01.Holds :=
  Mine.law_holds fun w sc osc svals sns C h1 h2 h3 h4 h5 h6 h7 => Mine.law_A (w := w) C h1 h2 h3 h4 h5 h6 h7
