import PyProof.Rows.All
import Wide.All
import OpenK.AllK
import Wide.FinOn
import Lean
import PySem.Challenge.RW_ho0001_01
set_option Elab.async false

section
open PySem PySem.W PyProof.Rows PySem.Calls
set_option maxRecDepth 100000
set_option linter.unusedVariables false
namespace Mine

/-- a code that lends out no bytearray -/
def clean : Code → Bool
  | .builtin id _ => !(["bytearray.__contains__", "bytearray.__mod__", "bytearray.__rmod__", "_struct.pack_into.held", "bytearray.find.held"].contains id) && !(Builtin.Bytes.decodersThatHold.contains id)
  | _ => true
def Cln (Γ : PySem.Ctx) : Prop := clean Γ.code = true ∧ ∀ x ∈ Γ.below, clean x.1 = true
/-- as wpAny, where nothing below lends out a bytearray -/
def wpC {α : Type} (M : Model) (A : Around) (t : Sem α) (Q : α → Shared → Prop) (E : Value → Shared → Prop) (s : Shared) : Prop :=
  ∀ Γ p, Γ.In A → Cln Γ → Sem.wp M Γ t (fun a _ s' => Q a s') (fun e _ s' => E e s') p s
theorem wpC_mono {α : Type} {M : Model} {A : Around} {E : Value → Shared → Prop} {s : Shared} {t : Sem α} {Q Q' : α → Shared → Prop} {E' : Value → Shared → Prop} (h : wpC M A t Q E s) (hQ : ∀ a s, Q a s → Q' a s) (hE : ∀ e s, E e s → E' e s) : wpC M A t Q' E' s :=
  fun Γ p hΓ hc => Sem.wp_mono M Γ t (fun a _ s => hQ a s) (fun e _ s => hE e s) p s (h Γ p hΓ hc)
theorem wpC_bind {α β : Type} {M : Model} {A : Around} {E : Value → Shared → Prop} {s : Shared} {m : Sem α} {f : α → Sem β} {Q : β → Shared → Prop} (h : wpC M A m (fun a s' => wpC M A (f a) Q E s') E s) : wpC M A (m >>= f) Q E s := fun Γ p hΓ hc => by
  rw [Sem.wp_bind']
  exact Sem.wp_mono M Γ m (fun a p' s' h' => h' Γ p' hΓ hc) (fun _ _ _ h' => h') p s (h Γ p hΓ hc)
theorem wpC_any {α : Type} {M : Model} {A : Around} {E : Value → Shared → Prop} {s : Shared} {t : Sem α} {Q : α → Shared → Prop} (h : wpAny M A t Q E s) : wpC M A t Q E s := fun Γ p hΓ _ => h Γ p hΓ

/-- where the claim's call starts -/
abbrev top₀ : PySem.Ctx := ⟨.builtin "claim.caller" {}, none, none, [], none⟩
theorem cln₀ : Cln top₀ := ⟨by kernel_rfl, fun _ h => nomatch h⟩

/-- a walk on the stack that the claim's call has -/
abbrev WalkC (q : Program) (loose : List Str) (XP : (Str → Option Value) → Heap → Prop) (YP : World → Heap → Prop) (r : RowW) (d : DefRec) (kwd : List (Str × Expr)) (run : Value → List Value → Sem Value) : Prop :=
  ∀ (w : World) (s₀ s₁ : Shared) (mg mb : Str → Option Value), Ground q loose r.records XP w s₀ mg mb s₁.heap → YP w s₁.heap → ∀ (a : Addr) (o : Obj) (pm cd doc dV kV : Value), s₁.heap.get? a = some o →
    o.data = .func { docDef d.name d.params d.body d.scope pm cd doc with defaults := dV, kwdefaults := kV } → s₁.heap.CodeRec cd d.name → Dflts mg s₁.heap d.params kwd dV kV → mg d.name = some (.ref a) → s₁.gens = #[] →
    ∀ (args : List WData) (vals : List Value) (as : List Addr), r.claim.pre args = true → WData.layableAll args = true → ReadsAllW r.records (classAt s₀.heap) s₁.heap vals args as → WellAll w.params s₁.heap vals args → (∀ a ∈ as, (a == sysModules) = false) →
      wpC (model r.prog w) callerA (run (.ref a) vals) (fun v s' => GoodWG r.claim (classAt s₀.heap) (ExcName.means s₀.heap) args s₁ (.ok (.ret v)) s')
        (fun e s' => GoodWG r.claim (classAt s₀.heap) (ExcName.means s₀.heap) args s₁ (.error e) s') s₁

end Mine
namespace Mine.PySem.W
/-- the head, for such a walk: it is found under this name by the library's own line -/
theorem holds_open {r : OpenRow} {q : Program} {loose : List Str} {Xt : Shared → Bool} {XP : (Str → Option Value) → Heap → Prop} {α : Type} {Yf : Shared → α} {Ya : World → α} {YP : World → Heap → Prop} {d : DefRec} {kwd : List (Str × Expr)} {N : Nat}
    (left : LeftO r.prog q loose Xt Yf Ya N) (hY : ∀ w s, Yf s = Ya w → YP w s.heap) (hYk : ∀ w h h', YP w h → (∀ b o, h.get? b = some o → h'.get? b = some o) → YP w h')
    (hX : ∀ s, Xt s = true → XP (s.heap.nsMap mainGlobals) s.heap) (hXk : ∀ mg h h', XP mg h → (∀ b o, h.get? b = some o → h'.get? b = some o) → XP mg h')
    (hdef : defOf q r.name = some (d, kwd)) (hp : r.prog.theDef r.name = some (d.params, d.body, d.scope)) (hk : kwWritten? d.params.kwonlyargs d.params.kw_defaults = some kwd) (hRf : ∀ s, Xt s = true → RecFacts r.records s.heap) (hwr : (!r.writes || r.records.isEmpty) = true)
    (k1 : r.wellSaid = true) (ok : (chainsOk q && opensWell r.prog && (frees r.toRowW && r.within.isEmpty)) = true) (hb : r.prog.bare) (hw : r.toRowW.promised)
    (call : WalkC q loose XP YP r.toRowW d kwd fun f vs => PySem.call f vs) : r.Holds := by
  have ok1 := (Bool.and_eq_true_iff.mp ok).1
  have ok2 := (Bool.and_eq_true_iff.mp ok).2
  have och := (Bool.and_eq_true_iff.mp ok1).1
  have ops := (Bool.and_eq_true_iff.mp ok1).2
  obtain ⟨nosame, hun, haf, hap, nomk⟩ := frees_parts (Bool.and_eq_true_iff.mp ok2).1
  have nowi : r.toRowW.claim.within = [] := List.isEmpty_iff.mp (Bool.and_eq_true_iff.mp ok2).2
  refine ⟨k1, hw, ⟨hb, ops, by show r.toRowW.makers.map _ = []; rw [nomk]; rfl⟩, hw.witness, fun w => ?_⟩
  have bh := left.behind (XP := fun mg h => XP mg h ∧ RecFacts r.records h) (fun s hs => ⟨hX s hs, hRf s hs⟩) och w
  refine ⟨bh.1, fun s' hs' => ?_⟩
  obtain ⟨s₀, hf, hg0, s, T, hz, hge, hns, G, y⟩ := bh.2 s' hs'
  have RF := G.X.2
  have G0 : Ground q loose [] XP w s (s.heap.nsMap mainGlobals) (s.heap.nsMap builtinsNs) s.heap := ⟨G.T, G.B, G.D, G.TE, G.TD, G.W, G.X.1, G.cls, G.has, G.apart, G.once, G.K⟩
  have nogens : s.gens = #[] := Array.eq_empty_of_size_eq_zero (beq_iff_eq.mp hge)
  have G1 : Ground q loose r.records XP w s _ _ s.heap := RF.ground G0
  refine ⟨s₀, hf, hg0, s, T, fun n hn => ?_, RF.1, RF.2.1, ?_⟩
  · obtain rfl : n = r.name := by split at hn <;> simp_all
    exact pinned_of_view hns G0 hdef hp hk
  intro args hpre hlay ord hord
  obtain ⟨⟨vs, s₁⟩, laid⟩ := Option.isSome_iff_exists.mp (layAllW_isSome (P := w.params) (ord := ord) G1.has args r.args s (pre_splitW hpre).1)
  have kp := layAllW_keeps _ _ _ laid
  have al := layAllW_rest _ _ _ laid
  obtain ⟨as, rd, hin, old⟩ := reads_layAllW hord _ _ _ laid hlay s₁.heap (fun _ _ e => e)
  have L : Laid r.records w s s₁ args vs as := ⟨⟨ord, hord, laid⟩, rd, hin, old, kp, al.1.trans nogens, al.2.2.1⟩
  have G2 := G1.keeps hXk kp
  obtain ⟨a, o, pm, cd, doc, dV, kV, g1, g2, g3, g4, g5⟩ := G2.fn hdef
  have main := call w s s₁ _ _ G2 (hYk _ _ _ (hY w s y) kp) a o pm cd doc dV kV g2 g3 g4 g5 (defOf_name hdef ▸ g1) L.gens args vs as hpre hlay L.reads L.well (L.low G1.low)
  have hi := ident_freeW hun haf hap
  have fin : ∀ (x : Result) (s' : Shared), GoodWG r.toRowW.claim (classAt s.heap) (ExcName.means s.heap) args s₁ x s' → (r.toRowW.claim.Ends s args vs s₁ x s' ∧ s'.os = s.os ∧
      (r.writes = true → namesKept r.prog r.keeps s.heap s'.heap ∧ ∀ x ∈ r.records, ∀ a, classAt s.heap x.1 = some a → recordClass s'.heap a x.1 (x.2.map (·.1)) = true)) ∧ leftWithCleanup s'.gens = false := fun x s' g => by
    have z := g.laid (c := r.toRowW.claim) nosame nowi hi L
    exact ⟨⟨z.1, z.2.1, fun q => ⟨namesKept_of T hns r.keeps kp g.2.1.old, noTable hwr q⟩⟩, leftWithCleanup_false_of_bare z.2.2⟩
  have tree : wpC (model r.prog w) callerA (do match ← nsGet mainNs r.name with
      | some f => do ret (← PySem.call f vs)
      | none => unsupported "claim.caller:no-such-global") (fun f s' => ∃ g, f = .done g ∧ GoodWG r.toRowW.claim (classAt s.heap) (ExcName.means s.heap) args s₁ (.ok g) s')
        (fun e s' => GoodWG r.toRowW.claim (classAt s.heap) (ExcName.means s.heap) args s₁ (.error e) s') s₁ := by
    refine wpC_bind (wpC_any (wpAny_nsGet G2.T.g ?_))
    rw [g1]
    exact wpC_bind (wpC_mono main (fun v s' h => wpC_any (wpAny_pure ⟨_, rfl, h⟩)) fun _ _ x => x)
  have at₀ := tree top₀ default caller_in cln₀
  obtain ⟨k, x, s', s'', hsched, hrun, hfo, hR⟩ := wp_halts_full (M := model r.prog w) (p := default) (R := fun x s' => r.toRowW.claim.Ends s args vs s₁ x s' ∧ s'.os = s.os ∧
      (r.writes = true → namesKept r.prog r.keeps s.heap s'.heap ∧ ∀ x ∈ r.records, ∀ a, classAt s.heap x.1 = some a → recordClass s'.heap a x.1 (x.2.map (·.1)) = true)) (Shared.asleep_of_life al.2.2.2 hz)
    (Sem.wp_mono _ top₀ _ (fun f p' s' h => by obtain ⟨g, rfl, h⟩ := h; exact fin _ _ h) (fun e p' s' h => fin _ _ h) default s₁ at₀)
  obtain ⟨eh, _, _, eo, _⟩ := Shared.forget_eq hfo
  have hcase := hR.1.congr eh
  have hkp := hR.2.2
  rw [← eh] at hkp
  have hos := hR.2.1
  rw [← eo] at hos
  have hlife : s''.heap.life = s.heap.life := (runN_life _ _ _ hrun).trans al.2.2.2
  refine ⟨vs, s₁, laid, k, _, s'', hsched, ?_, (fun _ i x hx => by rw [nogens] at hx; simp at hx), hkp, by rw [hlife], Shared.rest_eq hos⟩
  rcases hcase with ⟨v, rfl, d1, d2, d3, d4, d5⟩ | ⟨e, ob, cls, rfl, d1, d2, d3, d4, d5⟩
  · exact .inl ⟨v, rfl, d1, d2, d3, fun b o y _ => d4 b o y, d5⟩
  · exact .inr ⟨e, ob, cls, rfl, d1, d2, d3, d4, fun b o y _ => d5 b o y⟩
end Mine.PySem.W
end

section
open PySem PySem.W PyProof.Rows
set_option maxRecDepth 100000
namespace Mine
open_top hd for PySem.Challenge.rw_ho0001_01
end Mine
end

section
open PySem PySem.W PyProof.Rows PySem.Calls
set_option maxRecDepth 100000
set_option linter.unusedVariables false
namespace Mine

/-- what stands at the top of the program -/
structure Sta (w : World) (h : Heap) : Prop where
  K : (hd.heap_39 w.params).In h
  T : ∃ loose mean mg mb, Top hd.view_39 loose mean mg mb h
abbrev Sub (h h' : Heap) : Prop := ∀ b o, h.get? b = some o → h'.get? b = some o
theorem Sub.refl (h : Heap) : Sub h h := fun _ _ e => e
theorem Sub.trans {h h' h'' : Heap} (a : Sub h h') (b : Sub h' h'') : Sub h h'' := fun x o e => b x o (a x o e)
theorem Sta.keeps {w : World} {h h' : Heap} (S : Sta w h) (k : Sub h h') : Sta w h' :=
  ⟨S.K.keeps k, let ⟨a, b, c, d, T⟩ := S.T; ⟨a, b, c, d, T.keeps k⟩⟩
theorem ksub {s s' : Shared} (k : Keeps s s') : Sub s.heap s'.heap := by obtain ⟨h, t, rfl, e⟩ := k; exact e
theorem krefl (s : Shared) : Keeps s s := ⟨s.heap, s.toks, rfl, fun _ _ e => e⟩
theorem ktrans {s s' s'' : Shared} (a : Keeps s s') (b : Keeps s' s'') : Keeps s s'' := by
  obtain ⟨h, t, rfl, e⟩ := a
  obtain ⟨h', t', rfl, e'⟩ := b
  exact ⟨h', t', rfl, fun x o q => e' x o (e x o q)⟩
theorem kof {s : Shared} {h : Heap} {t : Nat} (k : Sub s.heap h) : Keeps s { s with heap := h, toks := t } := ⟨h, t, rfl, k⟩

structure Rm (A : Around) (k : Nat) : Prop where
  hh : A.handled = none
  depth : A.depth + k < 1000
  units : A.units + 4 * k < 9000
theorem Rm.deeper {A : Around} {k : Nat} {env : Env} (R : Rm A (k + 1)) : Rm (A.deeper env) k :=
  ⟨R.hh, by rw [depth_deeper]; have := R.depth; omega, by rw [units_deeper]; have := R.units; omega⟩
theorem Rm.mono {A : Around} {k j : Nat} (R : Rm A k) (h : j ≤ k) : Rm A j := ⟨R.hh, by have := R.depth; omega, by have := R.units; omega⟩

/-- what is known of a value in a heap, and stays -/
structure VP where
  p : Value → Heap → Prop
  st : ∀ v h h', p v h → Sub h h' → p v h'
def eqv (u : Value) : VP := ⟨fun v _ => v = u, fun _ _ _ x _ => x⟩
def isI (n : Int) : VP := ⟨fun v _ => ∃ t, v = .int n t, fun _ _ _ x _ => x⟩
def isB (b : Bool) : VP := ⟨fun v _ => v = .bool b, fun _ _ _ x _ => x⟩
def isY (l : List UInt8) : VP := ⟨fun v _ => ∃ t, v = .bytes l.toArray t, fun _ _ _ x _ => x⟩
def pure' (P : Value → Prop) : VP := ⟨fun v _ => P v, fun _ _ _ x _ => x⟩
/-- a list, new beside ref -/
def isL (ref : Heap) (P : List Value → Prop) : VP :=
  ⟨fun v h => ∃ (a : Addr) (vs : List Value) (n : Nat), v = .ref a ∧ ref.get? a = none ∧ h.get? a = some (PySem.W.listOf vs.toArray n) ∧ P vs,
   fun v h h' x k => by obtain ⟨a, vs, n, e, f, g, q⟩ := x; exact ⟨a, vs, n, e, f, k _ _ g, q⟩⟩
/-- a list that may be old -/
def isO (P : List Value → Prop) : VP :=
  ⟨fun v h => ∃ (a : Addr) (vs : List Value) (n : Nat), v = .ref a ∧ h.get? a = some (PySem.W.listOf vs.toArray n) ∧ P vs,
   fun v h h' x k => by obtain ⟨a, vs, n, e, g, q⟩ := x; exact ⟨a, vs, n, e, k _ _ g, q⟩⟩

structure Fm (ref : Heap) (L : Addr) (m : Str → Option Value) (h : Heap) : Prop where
  keep : Sub ref h
  ns : h.Ns L m
theorem Fm.keeps {ref : Heap} {L : Addr} {m : Str → Option Value} {h h' : Heap} (F : Fm ref L m h) (k : Sub h h') : Fm ref L m h' := ⟨F.keep.trans k, F.ns.keeps k⟩

/-- an expression's worth over a heap ref and the frame's names -/
def Ev (w : World) (A : Around) (env : Env) (ref : Heap) (m : Str → Option Value) (e : Expr) (R : VP) : Prop :=
  ∀ (s : Shared) (E : Value → Shared → Prop), Fm ref env.locals m s.heap →
    wpAny (model PySem.Challenge.rw_ho0001_01.row.prog w) A (eval e env) (fun v s' => R.p v s'.heap ∧ Keeps s s') E s
/-- a test's worth -/
def Tr (w : World) (A : Around) (env : Env) (ref : Heap) (m : Str → Option Value) (e : Expr) (b : Bool) : Prop :=
  ∀ (s : Shared) (E : Value → Shared → Prop), Fm ref env.locals m s.heap →
    wpAny (model PySem.Challenge.rw_ho0001_01.row.prog w) A (isTrue e env (eval e env)) (fun v s' => v = b ∧ Keeps s s') E s
/-- a call's worth -/
def Cl (w : World) (A : Around) (f : Value) (vs : List Value) (R : VP) (s : Shared) : Prop :=
  ∀ (E : Value → Shared → Prop), wpAny (model PySem.Challenge.rw_ho0001_01.row.prog w) A (call f vs) (fun v s' => R.p v s'.heap ∧ Keeps s s') E s

section
variable {w : World} {A : Around} {env : Env} {ref : Heap} {m : Str → Option Value} {R R₁ R₂ : VP} {E : Value → Shared → Prop} {s : Shared}

theorem Ev.use {e : Expr} {Q : Value → Shared → Prop} (H : Ev w A env ref m e R) (F : Fm ref env.locals m s.heap) (k : ∀ v s', R.p v s'.heap → Keeps s s' → Q v s') :
    wpAny (model PySem.Challenge.rw_ho0001_01.row.prog w) A (eval e env) Q E s := wpAny_mono (H s E F) (fun v s' h => k v s' h.1 h.2) fun _ _ x => x
theorem Tr.use {e : Expr} {b : Bool} {Q : Bool → Shared → Prop} (H : Tr w A env ref m e b) (F : Fm ref env.locals m s.heap) (k : ∀ s', Keeps s s' → Q b s') :
    wpAny (model PySem.Challenge.rw_ho0001_01.row.prog w) A (isTrue e env (eval e env)) Q E s := wpAny_mono (H s E F) (fun v s' h => h.1 ▸ k s' h.2) fun _ _ x => x
theorem Cl.use {f : Value} {vs : List Value} {Q : Value → Shared → Prop} (H : Cl w A f vs R s) (k : ∀ v s', R.p v s'.heap → Keeps s s' → Q v s') :
    wpAny (model PySem.Challenge.rw_ho0001_01.row.prog w) A (call f vs) Q E s := wpAny_mono (H E) (fun v s' h => k v s' h.1 h.2) fun _ _ x => x
theorem Ev.mono {e : Expr} (H : Ev w A env ref m e R₁) (k : ∀ v h, R₁.p v h → R₂.p v h) : Ev w A env ref m e R₂ := fun s E F => wpAny_mono (H s E F) (fun v s' h => ⟨k _ _ h.1, h.2⟩) fun _ _ x => x

theorem ev_local {x : Str} {v : Value} {pos : Pos} (hv : m x = some v) (hk : env.scope.kind = .function := by rfl) (hl : env.kindOf x = some .local := by rfl) (hd : (x == ("__debug__" : Str)) = false := by decide) :
    Ev w A env ref m (.Name x pos) (eqv v) := fun s _ F => wpAny_Name (wpAny_loadName_local hk hl F.ns hv ⟨rfl, krefl _⟩) hd
theorem ev_cell {x : Str} {v : Value} {c : Addr} {pos : Pos} (hc : env.cells.lookup x = some c) (hv : ref.IsCell c (some v)) (hk : env.scope.kind = .function := by rfl) (hl : env.kindOf x = some .cell := by rfl) (hd : (x == ("__debug__" : Str)) = false := by decide) :
    Ev w A env ref m (.Name x pos) (eqv v) := fun s _ F => wpAny_Name (wpAny_loadName_cell hk hl hc (hv.keeps F.keep) ⟨rfl, krefl _⟩) hd
theorem ev_free {x : Str} {v : Value} {c : Addr} {pos : Pos} (hc : env.cells.lookup x = some c) (hv : ref.IsCell c (some v)) (hk : env.scope.kind = .function := by rfl) (hl : env.kindOf x = some .free := by rfl) (hd : (x == ("__debug__" : Str)) = false := by decide)
    (hn : (x == ("__classdict__" : Str)) = false := by decide) :
    Ev w A env ref m (.Name x pos) (eqv v) := fun s _ F => wpAny_Name (wpAny_loadName_free hk hl hc (hv.keeps F.keep) ⟨rfl, krefl _⟩ hn) hd
theorem ev_glob {x : Str} {v : Value} {pos : Pos} (S : Sta w ref) (e : nsIn (hd.heap_39 w.params) mainGlobals x = some (some v)) (hg : env.globals = mainGlobals := by rfl) (hk : env.scope.kind = .function := by rfl) (hl : env.kindOf x = some .globalImplicit := by rfl) (hd : (x == ("__debug__" : Str)) = false := by decide) :
    Ev w A env ref m (.Name x pos) (eqv v) := fun s _ F => by
  obtain ⟨_, _, mg, mb, T⟩ := S.T
  exact Name_function_global hk hl (loadGlobal_global (env := env) (by rw [hg]; exact T.g.keeps F.keep) (mg_of S.K T.g e) ⟨rfl, krefl _⟩) hd
theorem ev_boot {x : Str} {v : Value} {pos : Pos} (S : Sta w ref) (e : nsIn (hd.heap_39 w.params) mainGlobals x = some none) (hb : bootBuiltins x = some v) (hn : x ≠ "__name__" := by decide) (hg : env.globals = mainGlobals := by rfl) (hgb : env.builtins = builtinsNs := by rfl) (hk : env.scope.kind = .function := by rfl) (hl : env.kindOf x = some .globalImplicit := by rfl) (hd : (x == ("__debug__" : Str)) = false := by decide) :
    Ev w A env ref m (.Name x pos) (eqv v) := fun s _ F => by
  obtain ⟨_, _, mg, mb, T⟩ := S.T
  exact Name_function_global hk hl (loadGlobal_builtin (env := env) (by rw [hg]; exact T.g.keeps F.keep) (mg_none_of S.K T.g e) (by rw [hgb]; exact T.b.keeps F.keep) ((T.builtins x hn).trans hb) ⟨rfl, krefl _⟩) hd
theorem ev_int {i : Int} {k : Nat} {pos : Pos} : Ev w A env ref m (.Constant (.int i) k pos) (isI i) := fun s _ _ => wpAny_Constant_int ⟨⟨_, rfl⟩, kof (Sub.refl _)⟩
theorem ev_bool {b : Bool} {k : Nat} {pos : Pos} : Ev w A env ref m (.Constant (.bool b) k pos) (isB b) := fun s _ _ => wpAny_Constant_bool ⟨rfl, krefl _⟩

theorem ev_two {l r : Expr} {P : Value → Shared → Prop} {T : Value → Value → Sem Value} (F : Fm ref env.locals m s.heap) (H₁ : Ev w A env ref m l R₁) (H₂ : Ev w A env ref m r R₂)
    (h : ∀ a b s', Fm ref env.locals m s'.heap → R₁.p a s'.heap → R₂.p b s'.heap → Keeps s s' → wpAny (model PySem.Challenge.rw_ho0001_01.row.prog w) A (T a b) P E s') :
    wpAny (model PySem.Challenge.rw_ho0001_01.row.prog w) A (eval l env) (fun a s₁ => wpAny (model PySem.Challenge.rw_ho0001_01.row.prog w) A (eval r env) (fun b s₂ => wpAny (model PySem.Challenge.rw_ho0001_01.row.prog w) A (T a b) P E s₂) E s₁) E s :=
  H₁.use F fun a s₁ ha k₁ => H₂.use (F.keeps (ksub k₁)) fun b s₂ hb k₂ => h a b s₂ (F.keeps (ksub (ktrans k₁ k₂))) (R₁.st _ _ _ ha (ksub k₂)) hb (ktrans k₁ k₂)

theorem ev_bin {l r : Expr} {op : Operator} {pos : Pos} (H₁ : Ev w A env ref m l R₁) (H₂ : Ev w A env ref m r R₂)
    (h : ∀ a b s E, Fm ref env.locals m s.heap → R₁.p a s.heap → R₂.p b s.heap → wpAny (model PySem.Challenge.rw_ho0001_01.row.prog w) A (binaryOp op a b) (fun v s' => R.p v s'.heap ∧ Keeps s s') E s) :
    Ev w A env ref m (.BinOp l op r pos) R := fun _ _ F => wpAny_BinOp (ev_two F H₁ H₂ fun a b s' F' ha hb k => wpAny_mono (h a b s' _ F' ha hb) (fun _ _ x => ⟨x.1, ktrans k x.2⟩) fun _ _ x => x)
theorem ev_cmp {l r : Expr} {op : CmpOp} {pos : Pos} (H₁ : Ev w A env ref m l R₁) (H₂ : Ev w A env ref m r R₂)
    (h : ∀ a b s E, Fm ref env.locals m s.heap → R₁.p a s.heap → R₂.p b s.heap → wpAny (model PySem.Challenge.rw_ho0001_01.row.prog w) A (compareOp op a b) (fun v s' => R.p v s'.heap ∧ Keeps s s') E s)
    (hb : behindInMarks op r = false := by rfl) :
    Ev w A env ref m (.Compare l [op] [r] pos) R := fun _ _ F => wpAny_Compare1 (ev_two F H₁ H₂ fun a b s' F' ha hb k => wpAny_mono (h a b s' _ F' ha hb) (fun _ _ x => ⟨x.1, ktrans k x.2⟩) fun _ _ x => x) hb
theorem tr_cmp {l r : Expr} {op : CmpOp} {pos : Pos} {c : Bool} (H₁ : Ev w A env ref m l R₁) (H₂ : Ev w A env ref m r R₂)
    (h : ∀ a b s E, Fm ref env.locals m s.heap → R₁.p a s.heap → R₂.p b s.heap → wpAny (model PySem.Challenge.rw_ho0001_01.row.prog w) A (compareOp op a b) (fun v s' => v = .bool c ∧ Keeps s s') E s)
    (hb : behindInMarks op r = false := by rfl) :
    Tr w A env ref m (.Compare l [op] [r] pos) c := fun _ _ F => wpAny_isTrue_Compare1 (ev_two (T := fun a b => compareOp op a b) (P := fun v s₃ => wpAny _ A (truthy v) _ _ s₃) F H₁ H₂ fun a b s' F' ha hb k =>
      wpAny_mono (h a b s' _ F' ha hb) (fun _ s'' x => by obtain ⟨rfl, k'⟩ := x; exact wpAny_truthy_bool ⟨rfl, ktrans k k'⟩) fun _ _ x => x) hb
theorem tr_bool {e : Expr} {c : Bool} (H : Ev w A env ref m e (isB c)) (he : ∀ whole, PySem.isTrue e env whole = (do let v ← whole; standAt e.pos; holding [v] (truthy v)) := by intro _; rfl) : Tr w A env ref m e c := fun _ _ F =>
  isTrue_plain (H.use F fun v s' hv k => by obtain rfl : v = .bool c := hv; exact wpAny_truthy_bool ⟨rfl, k⟩) (he _)

/-- tests in a row -/
def TrA (w : World) (A : Around) (env : Env) (ref : Heap) (m : Str → Option Value) (op : BoolOp) (es : List Expr) (b : Bool) : Prop :=
  ∀ (s : Shared) (E : Value → Shared → Prop), Fm ref env.locals m s.heap →
    wpAny (model PySem.Challenge.rw_ho0001_01.row.prog w) A (allTrue op es env) (fun v s' => v = b ∧ Keeps s s') E s
theorem tra_or_nil : TrA w A env ref m .Or [] false := fun _ _ _ => wpAny_allTrue_Or_nil ⟨rfl, krefl _⟩
theorem tra_and_nil : TrA w A env ref m .And [] true := fun _ _ _ => wpAny_allTrue_And_nil ⟨rfl, krefl _⟩
theorem tra_or_cons {x : Expr} {r : List Expr} {a b : Bool} (H : Tr w A env ref m x a) (K : a = false → TrA w A env ref m .Or r b) : TrA w A env ref m .Or (x :: r) (a || b) := fun s E F =>
  wpAny_allTrue_Or_cons (H.use F fun s' k => by
    cases a with
    | true => exact ⟨rfl, k⟩
    | false => exact wpAny_mono (K rfl s' E (F.keeps (ksub k))) (fun v s'' x => ⟨x.1, ktrans k x.2⟩) fun _ _ x => x)
theorem tra_and_cons {x : Expr} {r : List Expr} {a b : Bool} (H : Tr w A env ref m x a) (K : a = true → TrA w A env ref m .And r b) : TrA w A env ref m .And (x :: r) (a && b) := fun s E F =>
  wpAny_allTrue_And_cons (H.use F fun s' k => by
    cases a with
    | false => exact ⟨rfl, k⟩
    | true => exact wpAny_mono (K rfl s' E (F.keeps (ksub k))) (fun v s'' x => ⟨x.1, ktrans k x.2⟩) fun _ _ x => x)
theorem tr_boolop {op : BoolOp} {es : List Expr} {pos : Pos} {b : Bool} (H : TrA w A env ref m op es b) : Tr w A env ref m (.BoolOp op es pos) b := fun s E F => wpAny_isTrue_BoolOp (H s E F)

/-- the callables that are met -/
def Cbl (w : World) (f : Value) : Prop := (∃ T, f = .type T) ∨ (∃ id, f = .builtin id) ∨ keepIn (hd.heap_39 w.params) f = true
theorem cw {f : Value} {e : Expr} {rest : List Expr} {pos : Pos} {Q : Value → Shared → Prop} (S : Sta w ref) (hf : Cbl w f)
    (h : wpAny (model PySem.Challenge.rw_ho0001_01.row.prog w) A (spliced (backTo pos (starEach (e :: rest) env))) (fun vs s₁ => Sub ref s₁.heap ∧ wpAny (model PySem.Challenge.rw_ho0001_01.row.prog w) A (call f vs) Q E s₁) E s)
    (he : starEach (e :: rest) env = (false, eval e env) :: starEach rest env) (hp : (backTo pos (starEach rest env)).any (·.1) = false) :
    wpAny (model PySem.Challenge.rw_ho0001_01.row.prog w) A (callWith pos f [] (backTo pos (starEach (e :: rest) env)) []) Q E s := by
  rcases hf with ⟨T, rfl⟩ | ⟨id, rfl⟩ | hk
  · exact PyProof.Rows.callWith_type1 (wpAny_mono h (fun _ _ x => x.2) fun _ _ x => x) he hp
  · exact PyProof.Rows.callWith_builtin1 (wpAny_mono h (fun _ _ x => x.2) fun _ _ x => x) he hp
  · exact callWith_K (h₀ := ref) S.K hk (wpAny_mono h (fun _ _ x => ⟨S.K.keeps x.1, x.2⟩) fun _ _ x => x) he hp

theorem ev_call1 {f : Value} {fe e : Expr} {pos : Pos} (S : Sta w ref) (hf : Cbl w f) (Hf : Ev w A env ref m fe (eqv f)) (H : Ev w A env ref m e R₁)
    (h : ∀ a s, Fm ref env.locals m s.heap → R₁.p a s.heap → Cl w A f [a] R s)
    (hc : eval (.Call fe [e] [] pos) env = (do callWith pos (← eval fe env) [] (backTo pos (starEach [e] env)) (backToKw pos (keywordEach [] env))) := by rfl)
    (he : starEach [e] env = (false, eval e env) :: starEach [] env := by rfl) : Ev w A env ref m (.Call fe [e] [] pos) R := fun s E F => by
  refine Call_ (Hf.use F fun v s₁ hv k => ?_) hc
  obtain rfl : v = f := hv
  refine cw S hf ?_ he rfl
  refine spliced_more (H.use (F.keeps (ksub k)) fun a s₂ ha k₂ => spliced_none ?_) he
  have kk := ktrans k k₂
  exact ⟨(F.keeps (ksub kk)).keep, (h a s₂ (F.keeps (ksub kk)) ha).use fun r s₃ hr k₃ => ⟨hr, ktrans kk k₃⟩⟩
theorem ev_call2 {f : Value} {fe e e' : Expr} {pos : Pos} (S : Sta w ref) (hf : Cbl w f) (Hf : Ev w A env ref m fe (eqv f)) (H : Ev w A env ref m e R₁) (H' : Ev w A env ref m e' R₂)
    (h : ∀ a b s, Fm ref env.locals m s.heap → R₁.p a s.heap → R₂.p b s.heap → Cl w A f [a, b] R s)
    (hc : eval (.Call fe [e, e'] [] pos) env = (do callWith pos (← eval fe env) [] (backTo pos (starEach [e, e'] env)) (backToKw pos (keywordEach [] env))) := by rfl)
    (he : starEach [e, e'] env = (false, eval e env) :: starEach [e'] env := by rfl) (he' : starEach [e'] env = (false, eval e' env) :: starEach [] env := by rfl)
    (hp : (backTo pos (starEach [e'] env)).any (·.1) = false := by rfl) : Ev w A env ref m (.Call fe [e, e'] [] pos) R := fun s E F => by
  refine Call_ (Hf.use F fun v s₁ hv k => ?_) hc
  obtain rfl : v = f := hv
  refine cw S hf ?_ he hp
  refine spliced_more (H.use (F.keeps (ksub k)) fun a s₂ ha k₂ => ?_) he
  have F₂ := F.keeps (ksub (ktrans k k₂))
  refine spliced_more (H'.use F₂ fun b s₃ hb k₃ => spliced_none ?_) he'
  have kk := ktrans (ktrans k k₂) k₃
  exact ⟨(F.keeps (ksub kk)).keep, (h a b s₃ (F.keeps (ksub kk)) (R₁.st _ _ _ ha (ksub k₃)) hb).use fun r s₄ hr k₄ => ⟨hr, ktrans kk k₄⟩⟩
theorem ev_sub {v i : Expr} {pos : Pos} (H₁ : Ev w A env ref m v R₁) (H₂ : Ev w A env ref m i R₂)
    (h : ∀ a b s E, Fm ref env.locals m s.heap → R₁.p a s.heap → R₂.p b s.heap → wpAny (model PySem.Challenge.rw_ho0001_01.row.prog w) A (subscriptTail v i a b) (fun v s' => R.p v s'.heap ∧ Keeps s s') E s) :
    Ev w A env ref m (.Subscript v i pos) R := fun _ _ F => Subscript_ (ev_two F H₁ H₂ fun a b s' F' ha hb k => wpAny_mono (h a b s' _ F' ha hb) (fun _ _ x => ⟨x.1, ktrans k x.2⟩) fun _ _ x => x)
end

/-- what may be walked through -/
def Iter (w : World) (A : Around) (x : Value) (n : Nat) (P : Nat → Value → Prop) (s : Shared) : Prop :=
  ∀ (Q E : Value → Shared → Prop), (∀ I fp wr St s', Walks PySem.Challenge.rw_ho0001_01.row.prog w A I fp wr n P St → St 0 s'.heap → (∀ b ∈ fp, b < s'.heap.objs.size) → (∀ b ∈ wr, s.heap.get? b = none) → Keeps s s' → Q (.ref I) s') →
    wpAny (model PySem.Challenge.rw_ho0001_01.row.prog w) A (pyIter x) Q E s
theorem new_none (h : Heap) : h.get? h.objs.size = none := by
  cases e : h.get? h.objs.size with
  | none => rfl
  | some o => exact absurd (Heap.lt_size e) (Nat.lt_irrefl _)
theorem iter_list {w : World} {A : Around} {s : Shared} {l : Addr} {items : Array Value} (hh : A.handled = none) (hl : s.heap.IsList l items) : Iter w A (.ref l) items.size (fun i v => items[i]? = some v) s := fun Q E k => by
  have hlt : l < s.heap.objs.size := by obtain ⟨o, ho, _⟩ := hl; exact Heap.lt_size ho
  refine wpAny_pyIter_list hl (k _ [s.heap.objs.size, l] [s.heap.objs.size] _ _ (Walks.list hh s.heap.objs.size l (Nat.ne_of_lt hlt) items) ⟨⟨_, Heap.get?_push_size _ rfl, rfl, rfl⟩, hl.push _⟩ ?_ ?_ (kof fun b o e => Heap.get?_push_of_some _ e))
  · intro b hb
    show b < (s.heap.push _).objs.size
    rw [Heap.size_push]
    rcases List.mem_cons.mp hb with rfl | hb
    · exact Nat.lt_succ_self _
    · rcases List.mem_cons.mp hb with rfl | hb
      · exact Nat.lt_succ_of_lt hlt
      · cases hb
  · intro b hb
    rw [List.mem_singleton.mp hb]
    exact new_none _
theorem iter_bytes {w : World} {A : Around} {s : Shared} {b : Array UInt8} {t : Tok} (hh : A.handled = none) : Iter w A (.bytes b t) b.size (fun i v => ∃ c u, b[i]? = some c ∧ v = Value.int (↑c.toNat) u) s := fun Q E k => by
  refine KBw.pyIter_bytes (k _ [s.heap.objs.size] [s.heap.objs.size] _ _ (KBw.walks hh s.heap.objs.size b t) ⟨_, Heap.get?_push_size _ rfl, rfl, rfl⟩ ?_ ?_ (kof fun b o e => Heap.get?_push_of_some _ e))
  · intro b hb
    show b < (s.heap.push _).objs.size
    rw [Heap.size_push, List.mem_singleton.mp hb]
    exact Nat.lt_succ_self _
  · intro b hb
    rw [List.mem_singleton.mp hb]
    exact new_none _
theorem iter_range {w : World} {A : Around} {s : Shared} {r : Addr} {a : Int} {n : Nat} {t u v : Tok} (hh : A.handled = none) (hr : IsRange s.heap r a (a + n) 1 t u v) (hs : Builtin.Range.small a (a + n) 1 = true) :
    Iter w A (.ref r) n (fun i v => i < n ∧ ∃ t, v = Value.int (a + ↑i * 1) t) s := fun Q E k => by
  refine wpAny_pyIter_range hr hs ?_
  have e : Builtin.Range.rangeSize a (a + n) 1 = (n : Int) := by rw [rangeSize_one]; split <;> omega
  rw [e]
  refine k _ [s.heap.objs.size] [s.heap.objs.size] _ _ (Walks.range hh s.heap.objs.size a 1 n).bound ?_ ?_ ?_ (kof fun b o e => Heap.get?_push_of_some _ e)
  · have := Heap.get?_push_size s.heap (o := { cls := .type "range_iterator", data := .fields #[rawInt a, rawInt n, rawInt 1] }) rfl
    simpa [IsRangeIter] using this
  · intro b hb
    show b < (s.heap.push _).objs.size
    rw [Heap.size_push, List.mem_singleton.mp hb]
    exact Nat.lt_succ_self _
  · intro b hb
    rw [List.mem_singleton.mp hb]
    exact new_none _

/-- the tests of a comprehension -/
def Trs (w : World) (A : Around) (env : Env) (ref : Heap) (m : Str → Option Value) (ifs : List Expr) (b : Bool) : Prop :=
  ∀ (s : Shared) (E : Value → Shared → Prop), Fm ref env.locals m s.heap →
    wpAny (model PySem.Challenge.rw_ho0001_01.row.prog w) A (forIn ifs true fun c r => if r = true then do let ok ← isTrue c env (eval c env); pure (ForInStep.yield ok) else pure (ForInStep.yield r)) (fun v s' => v = b ∧ Keeps s s') E s
theorem trs_nil {w : World} {A : Around} {env : Env} {ref : Heap} {m : Str → Option Value} : Trs w A env ref m [] true := fun _ _ _ => by
  rw [List.forIn_nil]; exact wpAny_pure ⟨rfl, krefl _⟩
theorem trs_one {w : World} {A : Around} {env : Env} {ref : Heap} {m : Str → Option Value} {e : Expr} {b : Bool} (H : Tr w A env ref m e b) : Trs w A env ref m [e] b := fun s E F => by
  rw [List.forIn_cons]
  refine wpAny_bind ?_
  rw [if_pos rfl]
  refine wpAny_bind (H.use F fun s' k => wpAny_pure ?_)
  show wpAny _ _ (forIn [] b _) _ _ _
  rw [List.forIn_nil]
  exact wpAny_pure ⟨rfl, k⟩

section
variable {w : World} {A : Around} {env : Env} {ref : Heap} {m : Str → Option Value} {R₁ : VP}

theorem ev_comp {elt iter : Expr} {x : Str} {px : Pos} {ifs : List Expr} {scope : Scope} {cl : List (Str × Addr)} {pos : Pos} {n : Nat} {P : Nat → Value → Prop} (p : Value → Bool) (F : Value → Value → Prop)
    (Hi : Ev w A env ref m iter R₁) (hit : ∀ s v, Fm ref env.locals m s.heap → R₁.p v s.heap → Iter w A v n P s)
    (ht : ∀ C m₃ i v, P i v → m₃ x = some v → Trs w A (compEnvC scope cl C env) ref m₃ ifs (p v))
    (he : ∀ C m₃ i v, P i v → p v = true → m₃ x = some v → Ev w A (compEnvC scope cl C env) ref m₃ elt (pure' (F v)))
    (hn : n ≤ sizeLine)
    (hclos : closureFor scope env = pure cl := by rfl) (hcell : ∀ y ∈ scope.names, y.2 ≠ .cell := by decide) (hkind : scope.kind = .function := by rfl)
    (hnames : ∀ y ∈ scope.names, y.2 = .local → scope.names.lookup y.1 = some .local := by decide) (hx : scope.names.lookup x = some .local := by rfl)
    (hs : ∀ x, foldedSetIterable iter env x = pure x := by intro _; rfl) :
    Ev w A env ref m (.ListComp elt [⟨.Name x px, iter, ifs, 0⟩] scope pos) (isL ref fun ys => ∃ vs : List Value, vs.length = n ∧ (∀ j v, vs[j]? = some v → P j v) ∧ Paired F (vs.filter p) ys) := fun s E Fr' => by
  refine wpAny_ListComp_free p F hclos hcell hkind hnames hx (Hi.use Fr' fun v s₁ hv k => ?_) hs
  refine hit s₁ v (Fr'.keeps (ksub k)) hv _ _ fun I fp wr St s₂ W hst hfp hwr k₂ => ?_
  have kk := ktrans k k₂
  have out : ∀ b o, ref.get? b = some o → b ∉ wr := fun b o e hb => by
    have := hwr b hb
    rw [(Fr'.keeps (ksub k)).keep b o e] at this
    cases this
  refine ⟨I, fp, wr, n, P, St, rfl, W, hn, hst, hfp, ⟨?_, ?_⟩, ?_⟩
  · intro C i v s₃ m₃ E' _ hP hns hm hk _
    exact ht C m₃ i v hP hm s₃ E' ⟨fun b o e => hk b o (out b o e) ((Fr'.keeps (ksub kk)).keep b o e), hns⟩
  · intro C i v s₃ m₃ E' _ hP hp hns hm hk _
    exact he C m₃ i v hP hp hm s₃ E' ⟨fun b o e => hk b o (out b o e) ((Fr'.keeps (ksub kk)).keep b o e), hns⟩
  · intro D h' tk ys vs hD hlD hpl hlen hP hF hk
    obtain ⟨nn, hpl⟩ := hpl
    refine ⟨⟨D, ys.toList, nn, rfl, ?_, by simpa using hpl, vs, hlen, hP, hF⟩, ?_⟩
    · cases e : ref.get? D with
      | none => rfl
      | some o => rw [(Fr'.keeps (ksub kk)).keep D o e] at hD; cases hD
    · obtain ⟨h₂, t₂, rfl, e₂⟩ := kk
      refine kof fun b o e => hk b o (fun hb => ?_) (e₂ b o e)
      have := hwr b hb
      rw [(ksub k) b o e] at this
      cases this
end

/-- entering a def without cells -/
theorem enterF {w : World} {A : Around} {R : Result → Shared → Prop} {s : Shared} {k : Nat} {name qual : Str} {params : Arguments} {body : List Stmt} {scope : Scope} {dV kV doc pm cdv ct oc : Value} {an od : Option Addr} {osl : Array (Option Value)} {f : Addr} {args : Args} {binds : List (Str × Value)}
    (S : Sta w s.heap) (rm : Rm A (k + 1))
    (ho : (hd.heap_39 w.params).lookup f = some ⟨oc, od, .func (fnOf name qual params body scope dV kV doc pm an cdv ct), osl⟩) (hcd : codeIn (hd.heap_39 w.params) cdv qual = true)
    (hbind : BindsTo s (fnOf name qual params body scope dV kV doc pm an cdv ct) args binds) (hloc : (binds.all fun x => decide (scope.names.lookup x.1 = some .local)) = true)
    (h : ∀ h₁ tk, Fr s.heap s.heap.objs.size h₁ (fun y => binds.reverse.lookup y) → Rm (A.deeper (envX qual scope s.heap.objs.size f cdv [])) k →
      wpAny (model PySem.Challenge.rw_ho0001_01.row.prog w) (A.deeper (envX qual scope s.heap.objs.size f cdv [])) (execs body (envX qual scope s.heap.objs.size f cdv []))
        (fun fl s' => R (.ok (.ret (match fl with | .ret v => v | _ => .none))) s') (fun _ _ => False) { s with heap := h₁, toks := tk })
    (hcell : ∀ x ∈ scope.names, x.2 ≠ .cell) (hco : scope.isCoroutine = false) (hgen : scope.isGenerator = false) (hk : scope.kind = .function) :
    codeAny (model PySem.Challenge.rw_ho0001_01.row.prog w) A (.call (.ref f) args) R s := by
  obtain ⟨_, _, _, _, T⟩ := S.T
  refine codeAny_call_def (fd := fnOf name qual params body scope dV kV doc pm an cdv ct) (body := body) (binds := binds) (by have := rm.depth; show A.depth < 1000; omega) (S.K _ _ ho) rfl T.nolimit (codeRec_of S.K hcd) rfl hbind hcell (locs hloc) (fun h₁ hns hk₁ => ?_) hco hgen hk
  exact wpAny_mono (h h₁ _ ⟨hns, hk₁, Nat.le_refl _⟩ rm.deeper) (fun _ _ x => x) fun _ _ x => x.elim

/-- entering a def with cells -/
theorem enterC {w : World} {A : Around} {R : Result → Shared → Prop} {s : Shared} {k : Nat} {name qual : Str} {params : Arguments} {body : List Stmt} {scope : Scope} {dV kV doc pm cdv ct oc : Value} {an od : Option Addr} {osl : Array (Option Value)} {f : Addr} {vals : List Value} {binds : List (Str × Value)}
    (S : Sta w s.heap) (rm : Rm A (k + 1))
    (ho : (hd.heap_39 w.params).lookup f = some ⟨oc, od, .func (fnOf name qual params body scope dV kV doc pm an cdv ct), osl⟩) (hcd : codeIn (hd.heap_39 w.params) cdv qual = true)
    (hbind : bindArgs (fnOf name qual params body scope dV kV doc pm an cdv ct) ⟨vals, []⟩ = pure binds)
    (hkind : (binds.all fun y => scope.names.lookup y.1 == some .local || scope.names.lookup y.1 == some .cell) = true)
    (h : ∀ s₁, InCallC s s.heap.objs.size (bindL (envX qual scope s.heap.objs.size f cdv (cellsFrom (s.heap.objs.size + 1) scope.names [])).kindOf binds fun _ => none) (cellsFrom (s.heap.objs.size + 1) scope.names [])
        (bindC (envX qual scope s.heap.objs.size f cdv (cellsFrom (s.heap.objs.size + 1) scope.names [])).kindOf binds fun _ => none) s₁ →
      Rm (A.deeper (envX qual scope s.heap.objs.size f cdv (cellsFrom (s.heap.objs.size + 1) scope.names []))) k →
      wpAny (model PySem.Challenge.rw_ho0001_01.row.prog w) (A.deeper (envX qual scope s.heap.objs.size f cdv (cellsFrom (s.heap.objs.size + 1) scope.names []))) (execs body (envX qual scope s.heap.objs.size f cdv (cellsFrom (s.heap.objs.size + 1) scope.names [])))
        (fun fl s' => R (.ok (.ret (match fl with | .ret v => v | _ => .none))) s') (fun _ _ => False) s₁)
    (hco : scope.isCoroutine = false) (hgen : scope.isGenerator = false) (hk : scope.kind = .function) :
    codeAny (model PySem.Challenge.rw_ho0001_01.row.prog w) A (.call (.ref f) ⟨vals, []⟩) R s := by
  obtain ⟨_, _, _, _, T⟩ := S.T
  refine codeAny_call_cells (fd := fnOf name qual params body scope dV kV doc pm an cdv ct) (body := body) (binds := binds) (by have := rm.depth; show A.depth < 1000; omega) (S.K _ _ ho) rfl T.nolimit (codeRec_of S.K hcd) rfl hbind rfl (kindsX hkind _) (fun s₁ x => ?_) hco hgen hk
  exact wpAny_mono (h s₁ x rm.deeper) (fun _ _ x => x) fun _ _ x => x.elim
end Mine
end

section
open PySem PySem.W PyProof.Rows PySem.Calls
set_option maxRecDepth 100000
set_option linter.unusedVariables false
namespace Mine
/-- the orders of four octets, in the octets' order -/
def PB (p : Fin 24) : List UInt8 := ([[0, 1, 2, 3], [0, 1, 3, 2], [0, 2, 1, 3], [0, 2, 3, 1], [0, 3, 1, 2], [0, 3, 2, 1], [1, 0, 2, 3], [1, 0, 3, 2], [1, 2, 0, 3], [1, 2, 3, 0], [1, 3, 0, 2], [1, 3, 2, 0], [2, 0, 1, 3], [2, 0, 3, 1], [2, 1, 0, 3], [2, 1, 3, 0], [2, 3, 0, 1], [2, 3, 1, 0], [3, 0, 1, 2], [3, 0, 2, 1], [3, 1, 0, 2], [3, 1, 2, 0], [3, 2, 0, 1], [3, 2, 1, 0]] : List (List UInt8)).getD p.val []
def mulN : Nat := 5490304049447100748220118883508891959386240264978256434489773072100789438816824962324681578241781526841022231419034451894349668648117850588599978293249585457824129718629319511687591053171798699276830995035668295714496070267063557201629931406101063569958159862973440774875867212393596808629525269022473925270245992122564507572184515317621691022830178636663910619558832759358382054739135270923685144166912178344256875178813959987031676548746591976623925108299743924044688870769454103477745227402707877222448113677080525999376421450246378972270253002793416326557231935314264962009672653450638580424149432310122714074681050104988239312464674358719467297653054884931577629673406664104079712933138379202034971849512787739305612220244255930622458887607621380029632849628377849614449931925833405437491985333425860324996437622318364700567002005281251262128368213203789908000
def mul (p q : Fin 24) : Fin 24 := ⟨(mulN >>> (5 * (24 * p.val + q.val))) % 32 % 24, Nat.mod_lt _ (by decide)⟩
def invN : Nat := 978321207349091352592539713606387744
def inv (p : Fin 24) : Fin 24 := ⟨(invN >>> (5 * p.val)) % 32 % 24, Nat.mod_lt _ (by decide)⟩
def thenL (a b : List UInt8) : List UInt8 := a.map fun c => b.getD c.toNat 0
theorem mul_then : ∀ p q : Fin 24, thenL (PB p) (PB q) = PB (mul p q) := by decide +kernel
theorem PB_len : ∀ p : Fin 24, (PB p).length = 4 := by decide +kernel
theorem PB_lt : ∀ p : Fin 24, ∀ c ∈ PB p, c.toNat < 4 := by decide +kernel
theorem PB_inj : ∀ p q : Fin 24, PB p = PB q → p = q := by decide +kernel
theorem PB_inv : ∀ p : Fin 24, (List.range 4).map (fun i => ((PB p).findIdx (fun c => c.toNat == i)).toUInt8) = PB (inv p) := by decide +kernel
end Mine
end

section
open PySem PySem.W PyProof.Rows PySem.Calls
set_option maxRecDepth 100000
set_option linter.unusedVariables false
namespace Mine

section
variable {α β γ : Type} {F : α → β → Prop} {G : β → γ → Prop}
theorem pa_len {l₁ : List α} {l₂ : List β} (h : Paired F l₁ l₂) : l₁.length = l₂.length := by induction h with
  | nil => rfl
  | cons _ _ ih => rw [List.length_cons, List.length_cons, ih]
theorem pa_get {l₁ : List α} {l₂ : List β} (h : Paired F l₁ l₂) : ∀ {i : Nat} {a : α}, l₁[i]? = some a → ∃ b, l₂[i]? = some b ∧ F a b := by
  induction h with
  | nil => intro i a e; simp at e
  | cons h1 _ ih =>
    intro i a e
    cases i with
    | zero => simp at e; subst e; exact ⟨_, rfl, h1⟩
    | succ i => simp at e; obtain ⟨b, e', f⟩ := ih e; exact ⟨b, by simpa using e', f⟩
theorem pa_get' {l₁ : List α} {l₂ : List β} (h : Paired F l₁ l₂) : ∀ {i : Nat} {b : β}, l₂[i]? = some b → ∃ a, l₁[i]? = some a ∧ F a b := by
  induction h with
  | nil => intro i a e; simp at e
  | cons h1 _ ih =>
    intro i a e
    cases i with
    | zero => simp at e; subst e; exact ⟨_, rfl, h1⟩
    | succ i => simp at e; obtain ⟨b, e', f⟩ := ih e; exact ⟨b, by simpa using e', f⟩
theorem pa_of : ∀ {l₁ : List α} {l₂ : List β}, l₁.length = l₂.length → (∀ (i : Nat) (a : α) (b : β), l₁[i]? = some a → l₂[i]? = some b → F a b) → Paired F l₁ l₂
  | [], [], _, _ => .nil
  | [], _ :: _, e, _ => by simp at e
  | _ :: _, [], e, _ => by simp at e
  | a :: r, b :: t, e, h => .cons (h 0 a b rfl rfl) (pa_of (by simpa using e) fun i x y h1 h2 => h (i + 1) x y (by simpa using h1) (by simpa using h2))
theorem pa_append {l₁ m₁ : List α} {l₂ m₂ : List β} (h : Paired F l₁ l₂) (k : Paired F m₁ m₂) : Paired F (l₁ ++ m₁) (l₂ ++ m₂) := by
  induction h with
  | nil => exact k
  | cons h1 _ ih => exact .cons h1 ih
theorem pa_filter {p : α → Bool} {q : β → Bool} (e : ∀ a b, F a b → p a = q b) {l₁ : List α} {l₂ : List β} (h : Paired F l₁ l₂) : Paired F (l₁.filter p) (l₂.filter q) := by
  induction h with
  | nil => exact .nil
  | cons h1 _ ih =>
    rw [List.filter_cons, List.filter_cons, e _ _ h1]
    split
    · exact .cons h1 ih
    · exact ih
theorem pa_map {H : α → γ → Prop} {f : β → γ} (e : ∀ a b, F a b → H a (f b)) {l₁ : List α} {l₂ : List β} (h : Paired F l₁ l₂) : Paired H l₁ (l₂.map f) := by
  induction h with
  | nil => exact .nil
  | cons h1 _ ih => exact .cons (e _ _ h1) ih
theorem pa_mono {H : α → β → Prop} (e : ∀ a b, F a b → H a b) {l₁ : List α} {l₂ : List β} (h : Paired F l₁ l₂) : Paired H l₁ l₂ := by
  induction h with
  | nil => exact .nil
  | cons h1 _ ih => exact .cons (e _ _ h1) ih
theorem pa_mem {Q : β → Prop} {l₁ : List α} {l₂ : List β} (h : Paired F l₁ l₂) (q : ∀ b ∈ l₂, Q b) : Paired (fun a b => F a b ∧ Q b) l₁ l₂ := by
  induction h with
  | nil => exact .nil
  | cons h1 _ ih => exact .cons ⟨h1, q _ (.head _)⟩ (ih fun b hb => q b (.tail _ hb))
theorem pa_sym {l₁ : List α} {l₂ : List β} (h : Paired F l₁ l₂) : Paired (fun b a => F a b) l₂ l₁ := by
  induction h with
  | nil => exact .nil
  | cons h1 _ ih => exact .cons h1 ih
/-- v y by F, v x by K: y x by H -/
theorem pa_join {K : α → γ → Prop} {H : β → γ → Prop} (e : ∀ a b c, F a b → K a c → H b c) : ∀ {l₁ : List α} {l₂ : List β} {l₃ : List γ}, Paired F l₁ l₂ → Paired K l₁ l₃ → Paired H l₂ l₃
  | _, _, _, .nil, .nil => .nil
  | _, _, _, .cons a r, .cons b t => .cons (e _ _ _ a b) (pa_join e r t)
theorem pa_take {l₁ : List α} {l₂ : List β} (h : Paired F l₁ l₂) (n : Nat) : Paired F (l₁.take n) (l₂.take n) := by
  induction h generalizing n with
  | nil => simp; exact .nil
  | cons h1 _ ih => cases n with
    | zero => exact .nil
    | succ n => exact .cons h1 (ih n)
theorem pa_drop {l₁ : List α} {l₂ : List β} (h : Paired F l₁ l₂) (n : Nat) : Paired F (l₁.drop n) (l₂.drop n) := by
  induction h generalizing n with
  | nil => simp; exact .nil
  | cons h1 h2 ih => cases n with
    | zero => exact .cons h1 h2
    | succ n => exact ih n
theorem pa_rev {l₁ : List α} {l₂ : List β} (h : Paired F l₁ l₂) : Paired F l₁.reverse l₂.reverse := by
  induction h with
  | nil => exact .nil
  | cons h1 h2 ih => rw [List.reverse_cons, List.reverse_cons]; exact pa_append ih (.cons h1 .nil)
end

/-- ints, and orders -/
abbrev vI (v : Value) (n : Int) : Prop := ∃ t, v = .int n t
abbrev vP (v : Value) (p : Fin 24) : Prop := ∃ t, v = .bytes (PB p).toArray t
abbrev IA (vs : List Value) (ns : List Int) : Prop := Paired vI vs ns
abbrev PA (vs : List Value) (ps : List (Fin 24)) : Prop := Paired vP vs ps
theorem IA.ints {vs : List Value} {ns : List Int} (h : IA vs ns) : IntsAre vs ns := by
  induction h with
  | nil => exact .nil
  | cons h1 _ ih => obtain ⟨t, rfl⟩ := h1; exact .cons _ t ih
theorem IA.of {vs : List Value} {ns : List Int} (h : IntsAre vs ns) : IA vs ns := by
  induction h with
  | nil => exact .nil
  | cons n t _ ih => exact .cons ⟨t, rfl⟩ ih
def isP (p : Fin 24) : VP := isY (PB p)
def bI (l : List UInt8) : List Int := l.map fun c => (c.toNat : Int)
theorem ia_bytes {l : List UInt8} {vs : List Value} (hlen : vs.length = l.toArray.size) (h : ∀ (j : Nat) (v : Value), vs[j]? = some v → ∃ (c : UInt8) (u : Tok), l.toArray[j]? = some c ∧ v = Value.int (↑c.toNat) u) : IA vs (bI l) := by
  refine pa_of (by simpa [bI] using hlen) fun i a b ha hb => ?_
  obtain ⟨c, u, hc, rfl⟩ := h i a ha
  simp [bI] at hb hc
  obtain ⟨c', hc', rfl⟩ := hb
  rw [hc] at hc'
  cases hc'
  exact ⟨u, rfl⟩
theorem byteArr_map (l : List UInt8) (f : UInt8 → UInt8) : byteArr ((bI l).map fun n => ((f n.toNat.toUInt8).toNat : Int)) = (l.map f).toArray := by
  unfold byteArr bI
  congr 1
  rw [List.map_map, List.map_map]
  refine List.map_congr_left fun c _ => ?_
  simp

section
variable {w : World} {A : Around} {env : Env} {ref : Heap} {m : Str → Option Value} {R R₁ R₂ : VP} {E : Value → Shared → Prop} {s : Shared}

/-- a comprehension without tests -/
theorem ev_map {elt iter : Expr} {x : Str} {px : Pos} {scope : Scope} {cl : List (Str × Addr)} {pos : Pos} {n : Nat} {P : Nat → Value → Prop} (F : Value → Value → Prop)
    (Hi : Ev w A env ref m iter R₁) (hit : ∀ s v, Fm ref env.locals m s.heap → R₁.p v s.heap → Iter w A v n P s)
    (he : ∀ C m₃ i v, P i v → m₃ x = some v → Ev w A (compEnvC scope cl C env) ref m₃ elt (pure' (F v)))
    (hn : n ≤ 1000)
    (hclos : closureFor scope env = pure cl := by rfl) (hcell : ∀ y ∈ scope.names, y.2 ≠ .cell := by decide) (hkind : scope.kind = .function := by rfl)
    (hnames : ∀ y ∈ scope.names, y.2 = .local → scope.names.lookup y.1 = some .local := by decide) (hx : scope.names.lookup x = some .local := by rfl)
    (hs : ∀ x, foldedSetIterable iter env x = pure x := by intro _; rfl) :
    Ev w A env ref m (.ListComp elt [⟨.Name x px, iter, [], 0⟩] scope pos) (isL ref fun ys => ∃ vs : List Value, vs.length = n ∧ (∀ j v, vs[j]? = some v → P j v) ∧ Paired F vs ys) := by
  refine Ev.mono (ev_comp (fun _ => true) F Hi hit (fun _ _ _ _ _ _ => trs_nil) (fun C m₃ i v hP _ hm => he C m₃ i v hP hm) (by rw [sizeLine_eq]; omega) hclos hcell hkind hnames hx hs) ?_
  rintro v h ⟨a, ys, n, rfl, hr, ha, vs, hlen, hP, hF⟩
  refine ⟨a, ys, n, rfl, hr, ha, vs, hlen, hP, ?_⟩
  rwa [List.filter_eq_self.mpr (fun _ _ => rfl)] at hF
/-- bytes of a list of ints -/
theorem cl_bytes {ns : List Int} {l : Value} (hh : A.handled = none) (hl : (isO fun vs => IA vs ns).p l s.heap) (hr : ∀ n ∈ ns, 0 ≤ n ∧ n < 256) (hz : ns.length ≤ 1000) : Cl w A (.type "bytes") [l] (pure' fun v => ∃ t, v = .bytes (byteArr ns) t) s := fun E => by
  obtain ⟨a, vs, n, rfl, ha, hi⟩ := hl
  refine call_bytes_ints ⟨_, ha, rfl, n, rfl⟩ hi.ints hr (by rw [pa_len hi]; exact Nat.le_trans hz (by rw [sizeLine_eq]; decide)) hh fun h' t k hk => ⟨⟨t, rfl⟩, kof hk⟩
theorem isO_of {P : List Value → Prop} {v : Value} {h : Heap} (H : (isL ref P).p v h) : (isO P).p v h := by
  obtain ⟨a, vs, n, e, _, g, q⟩ := H; exact ⟨a, vs, n, e, g, q⟩
theorem sub_bytes {l : List UInt8} {a b : Value} {ve ie : Expr} {k : Nat} (ha : ∃ t, a = .bytes l.toArray t) (hb : ∃ t, b = .int (k : Int) t) (hk : k < l.length) (hz : l.length ≤ 1000)
    (hs : ∀ (o i : Value), subscripted ie false o i = operate [o, i] (getItem o i) := by intro _ _; with_unfolding_all rfl)
    (ht : ∀ (v r : Value), letTemporaryGo ve v r = pure () := by intro _ _; with_unfolding_all rfl) :
    wpAny (model PySem.Challenge.rw_ho0001_01.row.prog w) A (subscriptTail ve ie a b) (fun v s' => (isI ((l.getD k 0).toNat : Int)).p v s'.heap ∧ Keeps s s') E s := by
  obtain ⟨t, rfl⟩ := ha
  obtain ⟨u, rfl⟩ := hb
  refine KBy.item_N (by omega) (by omega) (by omega) ⟨⟨_, by rw [Int.toNat_natCast]⟩, kof (Sub.refl _)⟩ (hs _ _) (ht _)
end

/-- one order behind another -/
theorem then_c {w : World} {A : Around} {s : Shared} {k : Nat} (S : Sta w s.heap) (rm : Rm A (k + 1)) {p q : Fin 24} {t u : Tok} : Cl w A (.ref 44) [.bytes (PB p).toArray t, .bytes (PB q).toArray u] (isP (mul p q)) s := fun E => by
  refine wpAny_call ?_
  refine' enterC S rm (f := 44) (binds := [(Str.ofString "one", .bytes (PB p).toArray t), (Str.ofString "other", .bytes (PB q).toArray u)]) ?ho ?hcd ?hb ?hl ?_ ?h1 ?h2 ?h3
  case ho => with_unfolding_all rfl
  case hcd => kernel_rfl
  case hb => exact rfl
  case hl => exact rfl
  case h1 => exact rfl
  case h2 => exact rfl
  case h3 => exact rfl
  intro s₁ x rm'
  have S₁ : Sta w s₁.heap := S.keeps x.toInCall.keep
  refine wpAny_execs_cons (wpAny_Return_some ?_)
  have hc := x.cell (Str.ofString "other") _ rfl
  refine Ev.use (ref := s₁.heap) (m := _) (R := isP (mul p q)) ?_ ⟨Sub.refl _, x.toInCall.ns⟩ ?_
  · refine ev_call1 (R₁ := isL s₁.heap fun ys => IA ys ((bI (PB p)).map fun n => (((PB q).getD n.toNat 0).toNat : Int))) S₁ (.inl ⟨_, rfl⟩) (ev_boot S₁ (by kernel_rfl) (by rfl)) ?_ ?_
    · refine Ev.mono (ev_map (fun v y => ∀ n, vI v n ∧ 0 ≤ n ∧ n < 4 → vI y (((PB q).getD n.toNat 0).toNat : Int)) (ev_local (by rfl)) (fun s v F hv => by obtain rfl := hv; exact iter_bytes rm'.hh) ?_ ?_) ?_
      · rintro C m₃ i v ⟨c, t', hc', rfl⟩ hm
        have hlt : c.toNat < 4 := PB_lt p c (by
          have := Array.mem_of_getElem? hc'
          simpa using this)
        refine Ev.mono (ev_sub (R₁ := eqv (.bytes (PB q).toArray u)) (R₂ := eqv (.int (c.toNat : Int) t')) (ev_cell (c := s.heap.objs.size + 1) (by rfl) hc) (ev_local hm) fun a b s' E' _ ha hb => sub_bytes ⟨_, ha⟩ ⟨_, hb⟩ (by rw [PB_len]; exact hlt) (by rw [PB_len]; decide)) ?_
        rintro y h ⟨t'', rfl⟩ n ⟨⟨_, hn⟩, _, _⟩
        cases hn
        exact ⟨t'', by rw [Int.toNat_natCast]⟩
      · have := PB_len p
        simp [this]
      · rintro v h ⟨a, ys, n, rfl, hr, ha, vs, hlen, hP, hF⟩
        refine ⟨a, ys, n, rfl, hr, ha, ?_⟩
        have hv := pa_mem (ia_bytes hlen hP) (Q := fun n => 0 ≤ n ∧ n < 4) (by
          intro b hb
          simp only [bI, List.mem_map] at hb
          obtain ⟨c, hc, rfl⟩ := hb
          have := PB_lt p c hc
          omega)
        exact pa_map (H := vI) (f := fun n : Int => (((PB q).getD n.toNat 0).toNat : Int)) (fun _ _ x => x) (pa_join (H := fun y n => vI y (((PB q).getD n.toNat 0).toNat : Int)) (fun v y n h1 h2 => h1 n h2) hF hv)
    · intro a s' F ha E'
      refine wpAny_mono (cl_bytes rm'.hh (isO_of ha) ?_ ?_ E') (fun v s'' h => ⟨?_, h.2⟩) fun _ _ x => x
      · intro n hn
        simp only [List.mem_map] at hn
        obtain ⟨k, _, rfl⟩ := hn
        have := UInt8.toNat_lt ((PB q).getD k.toNat 0)
        omega
      · have := PB_len p
        simp [bI, this]
      · obtain ⟨t', e⟩ := h.1
        refine ⟨t', e.trans ?_⟩
        congr 1
        have := byteArr_map (PB p) fun c => (PB q).getD c.toNat 0
        rw [← mul_then, thenL, ← this]
        congr 1
        refine List.map_congr_left fun n hn => ?_
        simp only [bI, List.mem_map] at hn
        obtain ⟨c, hc, rfl⟩ := hn
        simp
  · rintro v s' hv k
    obtain ⟨h₁, t₁, rfl, k₁⟩ := x.done
    exact ⟨hv, ktrans (kof k₁) k⟩
end Mine
end

section
open PySem PySem.W PyProof.Rows PySem.Calls
set_option maxRecDepth 100000
set_option linter.unusedVariables false
namespace Mine

theorem slot_bytes_lt : Slot "bytes" (cmpInfo .Lt).2.1 "bytes.__lt__" :=
  .of (owner := "bytes") (n := "__lt__") (by rw [typeLookup_type, builtinLookup_eq_fast]; kernel_rfl) (by decide +kernel) (by decide +kernel) (by decide +kernel)
    (by first | exact .inl (by decide +kernel) | exact .inr (by decide +kernel)) (by rw [isSubtype_type]; kernel_rfl)
theorem entry_bytes_lt : entryFor table "bytes.__lt__" = some Builtin.«bytes.__lt__» := entryFor_of_tree (by kernel_rfl)
theorem args_bytes_lt (a b : Value) : argsOk "bytes.__lt__" ⟨[a, b], []⟩ := by unfold argsOk; kernel_rfl
theorem gives_bytes_lt (b c : Array UInt8) (t u : Tok) : Gives (Builtin.«bytes.__lt__» ⟨[.bytes b t, .bytes c u], []⟩) (.val (.bool (Builtin.Bytes.order b.toList c.toList == .lt))) := by
  refine .of_wp fun M A E s Q hq => ?_
  show wpAny M A (isInstance (.bytes c u) (.type "bytes") >>= fun r => _) _ E s
  refine wpAny_bind (wpAny_isInstance (PySem.W.typeIs_bytes s c u) F.sub_bytes_bytes ?_)
  exact wpAny_pure ⟨_, rfl, hq⟩
theorem PB_lt_order : ∀ p q : Fin 24, (Builtin.Bytes.order (PB p) (PB q) == .lt) = decide (p < q) := by decide +kernel
theorem PB_beq : ∀ p q : Fin 24, (PB p == PB q) = decide (p = q) := by decide +kernel

section
variable {prog : Program} {w : World} {A : Around} {E : Value → Shared → Prop} {s : Shared} {p q : Fin 24} {t u : Tok}
theorem lt_P {Q : Value → Shared → Prop} (h : Q (.bool (decide (p < q))) s) : wpAny (model prog w) A (compareOp .Lt (.bytes (PB p).toArray t) (.bytes (PB q).toArray u)) Q E s :=
  compareOp_gives (op := .Lt) (PySem.W.typeIs_bytes s _ t) (PySem.W.typeIs_bytes s _ u) slot_bytes_lt entry_bytes_lt (args_bytes_lt _ _) (gives_bytes_lt _ _ t u) (fun e => nomatch e) (by
    show Q (.bool (Builtin.Bytes.order (PB p) (PB q) == .lt)) s
    rw [PB_lt_order]; exact h)
theorem eq_P {Q : Value → Shared → Prop} (h : Q (.bool (decide (p = q))) s) : wpAny (model prog w) A (compareOp .Eq (.bytes (PB p).toArray t) (.bytes (PB q).toArray u)) Q E s :=
  PySem.W.eq_bytes (by show Q (.bool (PB p == PB q)) s; rw [PB_beq]; exact h)
theorem ne_P {Q : Value → Shared → Prop} (h : Q (.bool (!decide (p = q))) s) : wpAny (model prog w) A (compareOp .NotEq (.bytes (PB p).toArray t) (.bytes (PB q).toArray u)) Q E s :=
  PySem.W.ne_bytes (by show Q (.bool (!(PB p == PB q))) s; rw [PB_beq]; exact h)
theorem eqAt_P : SeqAt.EqAt A s (.bytes (PB p).toArray t) (.bytes (PB q).toArray u) (decide (p = q)) := fun prog w E Q h => PySem.W.eqBool_bytes (by
  show Q (decide (PB p = PB q)) s
  rw [show decide (PB p = PB q) = decide (p = q) from decide_eq_decide.mpr ⟨PB_inj p q, fun e => e ▸ rfl⟩]; exact h)
theorem call_bytes_lt {Q : Value → Shared → Prop} (h : Q (.bool (decide (p < q))) s) :
    wpAny (model prog w) A (call (.builtin "bytes.__lt__") [.bytes (PB p).toArray t, .bytes (PB q).toArray u]) Q E s :=
  call_gives slot_bytes_lt (PySem.W.typeIs_bytes s _ t) entry_bytes_lt (args_bytes_lt _ _) (gives_bytes_lt _ _ t u) (by
    show Q (.bool (Builtin.Bytes.order (PB p) (PB q) == .lt)) s
    rw [PB_lt_order]; exact h)
theorem oneLt_P {Q : Bool → Shared → Prop} (h : Q (decide (p < q)) s) : wpAny (model prog w) A (oneLt' true (.bytes (PB p).toArray t) (.bytes (PB q).toArray u)) Q E s := by
  rw [oneLt'_eq]
  simp only [if_true]
  refine wpAny_bind (wpAny_cRoomFor_byValue rfl ?_)
  refine wpAny_bind (wpAny_callSpecialIfBound?_slot (PySem.W.typeIs_bytes s _ t) slot_bytes_lt (call_bytes_lt ?_))
  exact wpAny_truthy_bool h
end

/-- which order a value is -/
def pOf (v : Value) : Option (Fin 24) := match v with
  | .bytes b _ => (List.finRange 24).find? fun p => PB p == b.toList
  | _ => none
theorem pOf_P : ∀ p : Fin 24, ((List.finRange 24).find? fun q => PB q == PB p) = some p := by decide +kernel
theorem pOf_is {v : Value} {p : Fin 24} (h : vP v p) : pOf v = some p := by obtain ⟨t, rfl⟩ := h; exact pOf_P p
theorem pOf_back {v : Value} {p : Fin 24} (h : pOf v = some p) : vP v p := by
  cases v <;> simp only [pOf, reduceCtorEq] at h
  rename_i b t
  have := List.find?_some h
  have e : PB p = b.toList := by simpa using this
  exact ⟨t, by rw [e, Array.toArray_toList]⟩
@[reducible] def pKind : PyProof.Rows.KeyKind where
  α := Fin 24
  blt a b := decide (a < b)
  irrefl a := by simp
  trans a b c h1 h2 := by simp only [decide_eq_true_eq] at *; omega
  negTrans a b c h := by simp only [decide_eq_true_eq] at *; omega
  total a b h1 h2 := by simp only [decide_eq_false_iff_not] at *; omega
  keyOf := pOf
  dflt := 0
theorem pKind_oneLt : pKind.OneLt := by
  intro prog w A E s x y a b Q ha hb h
  obtain ⟨t, rfl⟩ := pOf_back ha
  obtain ⟨u, rfl⟩ := pOf_back hb
  exact oneLt_P h
theorem PA.mem {vs : List Value} {ps : List (Fin 24)} (h : PA vs ps) : ∀ v ∈ vs, ∃ p, vP v p := by
  induction h with
  | nil => intro v hv; cases hv
  | cons h1 _ ih => intro v hv; rcases List.mem_cons.mp hv with rfl | hv; exact ⟨_, h1⟩; exact ih v hv
theorem mapM_first_P : ∀ {vs : List Value} {ps : List (Fin 24)}, PA vs ps → vs.mapM firstOfTuple' = pure (vs.map fun _ => none)
  | _, _, .nil => by simp
  | _, _, .cons x h => by
    obtain ⟨t, rfl⟩ := x
    rw [List.mapM_cons, show firstOfTuple' (.bytes _ t) = pure none from rfl, mapM_first_P h]; simp
theorem mapM_typeOf_P : ∀ {vs : List Value} {ps : List (Fin 24)}, PA vs ps → vs.mapM typeOf = pure (vs.map fun _ => Value.type "bytes")
  | _, _, .nil => by simp
  | _, _, .cons x h => by
    obtain ⟨t, rfl⟩ := x
    rw [List.mapM_cons, mapM_typeOf_P h]
    show (pure (Value.type "bytes") >>= fun b => pure _ >>= fun bs => pure (b :: bs)) = _
    simp
theorem keyKind_P {v₁ v₂ : Value} {vs : List Value} {ps : List (Fin 24)} (hS : PA (v₁ :: v₂ :: vs) ps) : keyKind' (v₁ :: v₂ :: vs).toArray = pure oneType' := by
  rw [keyKind'_eq, List.mapM_toArray, mapM_first_P hS]
  simp only [map_pure, pure_bind]
  rw [if_neg (by simp), if_neg (by simp)]
  rw [oneTypeOnly'_eq, List.mapM_toArray, mapM_typeOf_P hS]
  simp only [map_pure, pure_bind]
  have hall : ((List.map (fun _ => Value.type "bytes") (v₁ :: v₂ :: vs)).toArray.all fun x => x == Value.type "bytes") = true := by
    simp only [List.all_toArray, List.all_map, List.all_eq_true]
    intro _ _
    rfl
  have h0 : (List.map (fun _ => Value.type "bytes") (v₁ :: v₂ :: vs)).toArray[0]? = some (Value.type "bytes") := by simp
  rw [h0]
  simp only [hall, if_true, pure_bind, Option.isSome_some]
theorem PA.of : ∀ {vs : List Value}, (∀ v ∈ vs, ∃ p, vP v p) → PA vs (vs.map fun v => (pOf v).getD 0)
  | [], _ => .nil
  | v :: r, h => by
    obtain ⟨p, hp⟩ := h v (.head _)
    rw [List.map_cons, pOf_is hp]
    exact .cons hp (PA.of fun x hx => h x (.tail _ hx))
theorem PA.map_eq {vs : List Value} {ps : List (Fin 24)} (h : PA vs ps) : (vs.map fun v => (pOf v).getD 0) = ps := by
  induction h with
  | nil => rfl
  | cons h1 _ ih => rw [List.map_cons, pOf_is h1, ih]; rfl
theorem sorted_out_P {vs : List Value} {ps : List (Fin 24)} (hS : PA vs ps) {xs : Array Keyed} (hp : xs.Perm (pairsOf vs)) (hs : SortedToK pKind xs (pairsOf vs).size) :
    ∃ ps', PA (xs.map (·.2)).toList ps' ∧ ps'.Perm ps ∧ ps'.Pairwise (· ≤ ·) := by
  have hl : xs.toList.Perm (vs.zip vs) := by rw [← pairsOf_toList]; exact Array.perm_iff_toList_perm.mp hp
  have hmem : ∀ p, p ∈ xs.toList → p.1 = p.2 ∧ p.1 ∈ vs := fun p hp' => mem_zip_self (hl.mem_iff.mp hp')
  have e : (xs.map (·.2)).toList = xs.toList.map (·.1) := by
    rw [Array.toList_map]; exact List.map_congr_left fun p hp' => (hmem p hp').1.symm
  refine ⟨xs.toList.map fun p => (pOf p.1).getD 0, ?_, ?_, ?_⟩
  · rw [e]
    have h1 := PA.of (vs := xs.toList.map (·.1)) (by
      intro v hv
      obtain ⟨p, hp', rfl⟩ := List.mem_map.mp hv
      exact hS.mem _ (hmem p hp').2)
    rwa [List.map_map] at h1
  · have h1 := hl.map fun p => (pOf p.1).getD 0
    have e2 : (vs.zip vs).map (fun p => (pOf p.1).getD 0) = ps := by
      have : (vs.zip vs).map (fun p => (pOf p.1).getD 0) = ((vs.zip vs).map Prod.fst).map fun v => (pOf v).getD 0 := by rw [List.map_map]; rfl
      rw [this, List.map_fst_zip (Nat.le_refl _), hS.map_eq]
    rwa [e2] at h1
  · rw [List.pairwise_iff_getElem]
    intro i j hi hj hij
    have hi' : i < xs.size := by simpa using hi
    have hj' : j < xs.size := by simpa using hj
    have h1 := hs i j (Nat.le_of_lt hij) (by rw [← hp.size_eq]; exact hj')
    unfold KeyOrd.kle KK at h1
    rw [getElem?_pos xs i hi', getElem?_pos xs j hj'] at h1
    simp only [decide_eq_false_iff_not] at h1
    simp only [List.getElem_map, Array.getElem_toList]
    exact Fin.not_lt.mp h1

/-- sorted, without doubles: one list -/
theorem sorted_eq {ps qs : List (Fin 24)} (hp : ps.Perm qs) (h1 : ps.Pairwise (· ≤ ·)) (h2 : qs.Pairwise (· ≤ ·)) : ps = qs :=
  List.Perm.eq_of_pairwise (fun x y _ _ a b => Fin.le_antisymm a b) h1 h2 hp
/-- the sorted list -/
def sortP (ps : List (Fin 24)) : List (Fin 24) := (List.finRange 24).flatMap fun p => List.replicate (ps.count p) p

section
variable {w : World} {A : Around} {env : Env} {ref : Heap} {m : Str → Option Value} {R R₁ R₂ : VP} {E : Value → Shared → Prop} {s : Shared}
theorem isL_list {P : List Value → Prop} {v : Value} {h : Heap} (H : (isO P).p v h) : ∃ a vs, v = .ref a ∧ h.IsList a vs.toArray ∧ P vs := by
  obtain ⟨a, vs, n, e, g, q⟩ := H; exact ⟨a, vs, e, ⟨_, g, rfl, n, rfl⟩, q⟩

theorem cl_sorted {ps qs : List (Fin 24)} {l : Value} (hl : (isO fun vs => PA vs ps).p l s.heap) (hz : ps.length < 64) (hk : Sub ref s.heap) (hp : qs.Perm ps) (ho : qs.Pairwise (· ≤ ·)) :
    Cl w A (.builtin "sorted") [l] (isL ref fun vs => PA vs qs) s := fun E => by
  obtain ⟨a, vs, rfl, ha, hP⟩ := isL_list hl
  refine sortedK pKind_oneLt ha (fun p hp => ?_) (fun v₁ v₂ rest e => keyKind_P (by rw [← e]; exact hP)) (by rw [pa_len hP]; exact hz) fun st' hp' hs => ?_
  · rw [pairsOf_toList] at hp
    obtain ⟨q, hq⟩ := hP.mem _ (mem_zip_self hp).2
    exact ⟨q, pOf_is hq⟩
  · obtain ⟨ps', h1, h2, h3⟩ := sorted_out_P hP hp' hs
    obtain ⟨e, he⟩ := sortedAll_at s.heap vs ((arrOf st').map (·.2))
    have : ps' = qs := sorted_eq (h2.trans hp.symm) h3 ho
    subst this
    refine ⟨⟨_, ((arrOf st').map (·.2)).toList, e, rfl, ?_, by rw [Array.toArray_toList]; exact he, h1⟩, kof fun _ _ => sortedAll_old⟩
    cases q : ref.get? (s.heap.objs.size + 1) with
    | none => rfl
    | some o => exact absurd (Heap.lt_size (hk _ _ q)) (Nat.not_lt.mpr (Nat.le_succ _))

/-- == and != of lists of orders -/
theorem eq_LP {ps qs : List (Fin 24)} {a b : Value} (ha : (isO fun vs => PA vs ps).p a s.heap) (hb : (isO fun vs => PA vs qs).p b s.heap) (hu : A.units < cLine) :
    wpAny (model PySem.Challenge.rw_ho0001_01.row.prog w) A (compareOp .Eq a b) (fun v s' => v = .bool (decide (ps = qs)) ∧ Keeps s s') E s := by
  obtain ⟨l, vs, rfl, hl, h1⟩ := isL_list ha
  obtain ⟨k, us, rfl, hk, h2⟩ := isL_list hb
  have e1 := pa_len h1
  have e2 := pa_len h2
  by_cases hz : vs.toArray.size = us.toArray.size
  · refine SeqAt.eq_listAt hl hk hz hu (e := fun j => decide (ps[j]? = qs[j]?)) (fun j x1 x2 => ?_) ⟨?_, krefl _⟩
    · obtain ⟨p, hp, t, ep⟩ := pa_get h1 (i := j) (a := vs.toArray[j]) (by simp)
      obtain ⟨q, hq, u, eq⟩ := pa_get h2 (i := j) (a := us.toArray[j]) (by simp)
      rw [ep, eq, hp, hq]
      simp only [Option.some.injEq]
      exact eqAt_P
    · congr 1
      rw [Bool.eq_iff_iff, List.all_eq_true, decide_eq_true_eq]
      constructor
      · intro h
        apply List.ext_getElem?
        intro j
        by_cases hj : j < vs.length
        · simpa using h j (by simpa using hj)
        · rw [List.getElem?_eq_none (by omega), List.getElem?_eq_none (by simp at hz; omega)]
      · rintro rfl j _
        simp
  · refine SeqAt.eq_list_lengthsAt hl hk (by simpa using hz) hu ⟨?_, krefl _⟩
    congr 1
    symm
    rw [decide_eq_false_iff_not]
    rintro rfl
    simp at hz
    omega
theorem ne_LP {ps qs : List (Fin 24)} {a b : Value} (ha : (isO fun vs => PA vs ps).p a s.heap) (hb : (isO fun vs => PA vs qs).p b s.heap) (hu : A.units < cLine) :
    wpAny (model PySem.Challenge.rw_ho0001_01.row.prog w) A (compareOp .NotEq a b) (fun v s' => v = .bool (!decide (ps = qs)) ∧ Keeps s s') E s := by
  obtain ⟨l, vs, rfl, hl, h1⟩ := isL_list ha
  obtain ⟨k, us, rfl, hk, h2⟩ := isL_list hb
  have e1 := pa_len h1
  have e2 := pa_len h2
  by_cases hz : vs.toArray.size = us.toArray.size
  · refine (SeqAt.RcNeAt.lists hl hk hz hu (e := fun j => decide (ps[j]? = qs[j]?)) (fun j x1 x2 => ?_)) _ w E _ ⟨?_, krefl _⟩
    · obtain ⟨p, hp, t, ep⟩ := pa_get h1 (i := j) (a := vs.toArray[j]) (by simp)
      obtain ⟨q, hq, u, eq⟩ := pa_get h2 (i := j) (a := us.toArray[j]) (by simp)
      rw [ep, eq, hp, hq]
      simp only [Option.some.injEq]
      exact eqAt_P
    · congr 2
      rw [Bool.eq_iff_iff, List.all_eq_true, decide_eq_true_eq]
      constructor
      · intro h
        apply List.ext_getElem?
        intro j
        by_cases hj : j < vs.length
        · simpa using h j (by simpa using hj)
        · rw [List.getElem?_eq_none (by omega), List.getElem?_eq_none (by simp at hz; omega)]
      · rintro rfl j _
        simp
  · refine (SeqAt.RcNeAt.lists_lengths hl hk (by simpa using hz) hu) _ w E _ ⟨?_, krefl _⟩
    have : decide (ps = qs) = false := by
      rw [decide_eq_false_iff_not]
      rintro rfl
      simp at hz
      omega
    rw [this]; rfl
/-- not in -/
theorem notin_LP {ps : List (Fin 24)} {q : Fin 24} {b a : Value} (hb : (isO fun vs => PA vs ps).p b s.heap) (ha : vP a q) :
    wpAny (model PySem.Challenge.rw_ho0001_01.row.prog w) A (compareOp .NotIn a b) (fun v s' => v = .bool (!decide (q ∈ ps)) ∧ Keeps s s') E s := by
  obtain ⟨l, vs, rfl, hl, h1⟩ := isL_list hb
  obtain ⟨t, rfl⟩ := ha
  refine SeqAt.notIn_listAt (fun v => decide (pOf v = some q)) hl (fun y hy => ?_) ⟨?_, krefl _⟩
  · obtain ⟨p, u, rfl⟩ := h1.mem y (by simpa using hy)
    rw [pOf_is ⟨u, rfl⟩]
    simp only [Option.some.injEq]
    exact eqAt_P
  · congr 2
    rw [Bool.eq_iff_iff]
    simp only [List.any_toArray, List.any_eq_true, decide_eq_true_eq]
    constructor
    · rintro ⟨v, hv, e⟩
      obtain ⟨i, hi⟩ := List.mem_iff_getElem?.mp hv
      obtain ⟨p, hp, hvp⟩ := pa_get h1 hi
      rw [pOf_is hvp] at e
      cases e
      exact List.mem_of_getElem? hp
    · intro hm
      obtain ⟨i, hi⟩ := List.mem_iff_getElem?.mp hm
      obtain ⟨v, hv, hvp⟩ := pa_get' h1 hi
      exact ⟨v, List.mem_of_getElem? hv, pOf_is hvp⟩
end
end Mine
end

section
open PySem PySem.W PyProof.Rows PySem.Calls
set_option maxRecDepth 100000
set_option linter.unusedVariables false
set_option maxHeartbeats 4000000
namespace Mine

abbrev upd (m : Str → Option Value) (x : Str) (v : Value) : Str → Option Value := fun y => if y = x then some v else m y
theorem upd_at {m : Str → Option Value} {x : Str} {v : Value} : upd m x v x = some v := if_pos rfl
theorem upd_ne {m : Str → Option Value} {x y : Str} {v u : Value} (h : y ≠ x) (e : m y = some u) : upd m x v y = some u := (if_neg h).trans e
section
variable {w : World} {A : Around} {env : Env} {ref h₀ : Heap} {m : Str → Option Value} {R R₁ R₂ : VP} {E : Value → Shared → Prop} {s : Shared} {news : List (Addr × Obj)}

theorem ev_none {k : Nat} {pos : Pos} : Ev w A env ref m (.Constant .none k pos) (eqv .none) := fun s _ _ => wpAny_Constant_none ⟨rfl, krefl _⟩
theorem cl_len {n : Nat} {l : Value} (hl : (isO fun vs => vs.length = n).p l s.heap) (hn : n ≤ 1000) : Cl w A (.builtin "len") [l] (isI n) s := fun E => by
  obtain ⟨a, vs, rfl, ha, hP⟩ := isL_list hl
  refine call_len_list ha (by rw [List.size_toArray]; omega) ⟨⟨s.toks + 1, ?_⟩, kof (Sub.refl _)⟩
  rw [List.size_toArray, hP]
theorem isO_mono {P P' : List Value → Prop} (e : ∀ vs, P vs → P' vs) {v : Value} {h : Heap} (H : (isO P).p v h) : (isO P').p v h := by
  obtain ⟨a, vs, n, e', g, q⟩ := H; exact ⟨a, vs, n, e', g, e _ q⟩
theorem isO_at {P : List Value → Prop} {a : Addr} {vs : List Value} {n : Nat} {h : Heap} (H : h.get? a = some (PySem.W.listOf vs.toArray n)) (q : P vs) : (isO P).p (.ref a) h := ⟨a, vs, n, rfl, H, q⟩
theorem sub_list {P : List Value → Prop} {a b : Value} {ve ie : Expr} {k : Nat} (ha : (isO P).p a s.heap) (hb : ∃ t, b = .int (k : Int) t) (hx : ∀ vs, P vs → ∃ x, vs[k]? = some x ∧ R.p x s.heap) (hk : k ≤ 1000)
    (hs : ∀ (o i : Value), subscripted ie false o i = operate [o, i] (getItem o i) := by intro _ _; with_unfolding_all rfl) :
    wpAny (model PySem.Challenge.rw_ho0001_01.row.prog w) A (subscriptTail ve ie a b) (fun v s' => R.p v s'.heap ∧ Keeps s s') E s := by
  obtain ⟨l, vs, rfl, hl, hP⟩ := isL_list ha
  obtain ⟨u, rfl⟩ := hb
  obtain ⟨x, hx, hr⟩ := hx vs hP
  exact tail_any hl.typeIs slot_list_getitem.lookup (wpAny_getItem_list hl (by omega) (by omega) (by simpa using hx) ⟨hr, krefl _⟩) (hs _ _)

/-- a name of the frame's is stored -/
theorem asg {name : Str} {scope : Scope} {L a : Addr} {cd : Value} {cl : List (Str × Addr)} {x : Str} {e : Expr} {p p' : Pos} {Q : Flow → Shared → Prop} (F : Fr h₀ L s.heap m) (N : News h₀ L s.heap news) (H : Ev w A (envX name scope L a cd cl) s.heap m e R)
    (k : ∀ v s₁, R.p v s₁.heap → Keeps s s₁ → Fr h₀ L s₁.heap m → News h₀ L s₁.heap news → ∃ news', News h₀ L s₁.heap news' ∧ ∀ h' tk, Fr h₀ L h' (upd m x v) → News h₀ L h' news' → Q .next { s with heap := h', toks := tk })
    (hk : scope.kind = .function := by rfl) (hx : (envX name scope L a cd cl).kindOf x = some .local := by rfl)
    (hs : swapsWith e (some (.Name x p)) p'.line (envX name scope L a cd cl) = pure false := by rfl) :
    wpAny (model PySem.Challenge.rw_ho0001_01.row.prog w) A (exec (.Assign [.Name x p] e p') (envX name scope L a cd cl)) Q E s := by
  refine wpAny_Assign_Name (H.use ⟨Sub.refl _, F.ns⟩ fun v s₁ hv kk => ?_) hs
  have F₁ := F.keptAll (ksub kk)
  have N₁ := N.grown (ksub kk)
  obtain ⟨news', N', c⟩ := k v s₁ hv kk F₁ N₁
  obtain ⟨h₁, t₁, rfl, _⟩ := kk
  exact storeX_L F₁ N' (fun h' F' N' => c h' _ F' N') hk hx
theorem asgI {name : Str} {scope : Scope} {L a : Addr} {cd : Value} {cl : List (Str × Addr)} {x : Str} {e : Expr} {p p' : Pos} {Q : Flow → Shared → Prop} {P : Value → Prop} (F : Fr h₀ L s.heap m) (N : News h₀ L s.heap news) (H : Ev w A (envX name scope L a cd cl) s.heap m e R) (hR : ∀ v h, R.p v h → P v)
    (k : ∀ v h' tk, P v → Fr h₀ L h' (upd m x v) → News h₀ L h' news → Q .next { s with heap := h', toks := tk })
    (hk : scope.kind = .function := by rfl) (hx : (envX name scope L a cd cl).kindOf x = some .local := by rfl)
    (hs : swapsWith e (some (.Name x p)) p'.line (envX name scope L a cd cl) = pure false := by rfl) :
    wpAny (model PySem.Challenge.rw_ho0001_01.row.prog w) A (exec (.Assign [.Name x p] e p') (envX name scope L a cd cl)) Q E s :=
  asg F N H (fun v s₁ hv _ _ N₁ => ⟨news, N₁, fun h' tk F' N' => k v h' tk (hR v _ hv) F' N'⟩) hk hx hs
/-- an if -/
theorem if_ {test : Expr} {body orelse : List Stmt} {p : Pos} {Q : Flow → Shared → Prop} {b : Bool} (F : Fm ref env.locals m s.heap) (H : Tr w A env ref m test b)
    (k : ∀ s', Keeps s s' → wpAny (model PySem.Challenge.rw_ho0001_01.row.prog w) A (execs (if b then body else orelse) env) Q E s') :
    wpAny (model PySem.Challenge.rw_ho0001_01.row.prog w) A (exec (.If test body orelse p) env) Q E s :=
  wpAny_If (H.use F fun s' kk => by have := k s' kk; cases b <;> exact this)
end

/-- how many are less: where it goes -/
def rank (ps : List (Fin 24)) (q : Fin 24) : Nat := ps.countP (· < q)
theorem rank_le (ps : List (Fin 24)) (q : Fin 24) : rank ps q ≤ ps.length := List.countP_le_length
theorem rank_at : ∀ {ps : List (Fin 24)}, ps.Pairwise (· ≤ ·) → ∀ {q : Fin 24} {i : Nat} {p : Fin 24}, ps[i]? = some p → (p < q ↔ i < rank ps q)
  | [], _, q, i, p, e => by simp at e
  | x :: r, h, q, i, p, e => by
    obtain ⟨h1, h2⟩ := List.pairwise_cons.mp h
    unfold rank
    rw [List.countP_cons]
    cases i with
    | zero =>
      simp at e; subst e
      by_cases hx : x < q
      · simp [hx]
      · have : List.countP (fun y => decide (y < q)) r = 0 := List.countP_eq_zero.mpr fun y hy => by
          have := h1 y hy
          simp only [decide_eq_true_eq]
          omega
        simp [hx, this]
    | succ i =>
      simp at e
      have ih := rank_at h2 (q := q) e
      unfold rank at ih
      by_cases hx : x < q
      · simp only [hx, decide_true, if_true]
        omega
      · have h0 : List.countP (fun y => decide (y < q)) r = 0 := List.countP_eq_zero.mpr fun y hy => by
          have := h1 y hy
          simp only [decide_eq_true_eq]
          omega
        have hp := h1 p (List.mem_of_getElem? e)
        simp only [hx, decide_false, Bool.false_eq_true, if_false, h0]
        omega

theorem wp_loadc {M : Model} {A : Around} {α : Type} {E : Value → Shared → Prop} {s : Shared} {Q : α → Shared → Prop} {a : Addr} {p : Option Value} {k : Obj → Sem α} {o : Obj} (ho : s.heap.get? a = some o) (h : wpAny M A (k o) Q E s) : wpAny M A (Sem.load a p k) Q E s := by
  show wpAny M A (loadPart a p >>= k) Q E s
  exact wpAny_bind (wpAny_loadPart ho h)
theorem fr_ref {h₀ h : Heap} {L : Addr} {m : Str → Option Value} (F : Fr h₀ L h m) : Fm h₀ L m h := ⟨F.keep, F.ns⟩
theorem fr_self {h₀ h : Heap} {L : Addr} {m : Str → Option Value} (F : Fr h₀ L h m) : Fm h L m h := ⟨Sub.refl _, F.ns⟩

noncomputable def fdOf (w : World) (a : Addr) : FuncData := match (hd.heap_39 w.params).lookup a with
  | some ⟨_, _, .func f, _⟩ => f
  | _ => default
theorem bisect_b {w : World} {A : Around} {s : Shared} {k : Nat} (S : Sta w s.heap) (rm : Rm A (k + 1)) {ps : List (Fin 24)} {q : Fin 24} {l : Value} {t u : Tok} {args : List Value}
    (hb : BindsTo s (fdOf w 39) ⟨args, []⟩ [(Str.ofString "a", l), (Str.ofString "x", .bytes (PB q).toArray t), (Str.ofString "lo", .int 0 u), (Str.ofString "hi", .none), (Str.ofString "key", .none)]) (hl : (isO fun vs => PA vs ps).p l s.heap) (ho : ps.Pairwise (· ≤ ·)) (hz : ps.length ≤ 500) :
    Cl w A (.ref 39) args (isI (rank ps q)) s := fun E => by
  refine wpAny_call ?_
  refine' enterF S rm (f := 39) (binds := [(Str.ofString "a", l), (Str.ofString "x", .bytes (PB q).toArray t), (Str.ofString "lo", .int 0 u), (Str.ofString "hi", .none), (Str.ofString "key", .none)]) ?ho ?hcd ?hb ?hl ?_ ?hc ?h1 ?h2 ?h3
  case ho => with_unfolding_all rfl
  case hcd => kernel_rfl
  case hb => exact hb
  case hl => exact rfl
  case hc => decide
  case h1 => exact rfl
  case h2 => exact rfl
  case h3 => exact rfl
  intro h₁ tk F rm'
  have N : News s.heap s.heap.objs.size h₁ [] := News.nil
  have S₁ : Sta w h₁ := S.keeps F.keep
  -- if lo < 0
  refine wpAny_execs_cons (if_ (ref := h₁) (b := false) (fr_self F) (tr_cmp (R₁ := eqv (.int 0 u)) (ev_local (by rfl)) ev_int fun a b s' E' F' ha hb => ?_) fun s' kk => ?_)
  · obtain rfl := ha
    obtain ⟨t', rfl⟩ := hb
    exact PyProof.Rows.lt_int ⟨by simp, krefl _⟩
  obtain ⟨h₂, t₂, rfl, k₂⟩ := kk
  have F := F.keptAll k₂
  have S₂ := S₁.keeps k₂
  refine wpAny_execs_nil ?_
  dsimp only
  -- if hi is None
  refine wpAny_execs_cons (if_ (ref := h₂) (b := true) (fr_self F) (tr_cmp (R₁ := eqv .none) (ev_local (by rfl)) ev_none fun a b s' E' F' ha hb => ?_) fun s' kk => ?_)
  · obtain rfl := ha
    obtain rfl := hb
    exact is_none ⟨rfl, krefl _⟩
  obtain ⟨h₃, t₃, rfl, k₃⟩ := kk
  have F := F.keptAll k₃
  have N : News s.heap s.heap.objs.size h₃ [] := News.nil
  have S₃ := S₂.keeps k₃
  have hl₃ : ∀ h', Sub s.heap h' → (isO fun vs => vs.length = ps.length).p l h' := fun h' k => isO_mono (fun vs h => pa_len h) ((isO fun vs => PA vs ps).st _ _ _ hl k)
  refine wpAny_execs_cons (asgI F N (ev_call1 (R₁ := eqv l) (R := isI (ps.length : Nat)) S₃ (.inr (.inl ⟨_, rfl⟩)) (ev_boot S₃ (by kernel_rfl) (by rfl)) (ev_local (by rfl)) fun a s' F' ha => ?_) (fun v h x => x) fun v h₄ t₄ hv F₄ N₄ => ?_)
  · obtain rfl := ha
    exact cl_len (hl₃ _ fun b o e => F'.keep b o (F.keep b o e)) (by omega)
  obtain ⟨u₄, rfl⟩ := hv
  refine wpAny_execs_nil ?_
  dsimp only
  have S₄ := S.keeps F₄.keep
  -- if key is None
  refine wpAny_execs_cons (if_ (ref := h₄) (b := true) (fr_self F₄) (tr_cmp (R₁ := eqv .none) (ev_local (by rfl)) ev_none fun a b s' E' F' ha hb => ?_) fun s' kk => ?_)
  · obtain rfl := ha
    obtain rfl := hb
    exact is_none ⟨rfl, krefl _⟩
  obtain ⟨h₅, t₅, rfl, k₅⟩ := kk
  have F₅ := F₄.keptAll k₅
  refine wpAny_execs_cons (wpAny_While (codeAny_whileLoop (fun n s' => ∃ h tk m t' u', ∃ x y : Nat, s' = { s with heap := h, toks := tk } ∧ Fr s.heap s.heap.objs.size h m ∧ m (Str.ofString "a") = some l ∧ m (Str.ofString "x") = some (.bytes (PB q).toArray t) ∧ m (Str.ofString "lo") = some (.int (x : Int) t') ∧ m (Str.ofString "hi") = some (.int (y : Int) u') ∧ x ≤ rank ps q ∧ rank ps q ≤ y ∧ y ≤ ps.length ∧ n = y - x) ?_ ps.length ⟨h₅, t₅, _, u, u₄, 0, ps.length, rfl, F₅, rfl, rfl, rfl, rfl, Nat.zero_le _, rank_le _ _, Nat.le_refl _, rfl⟩))
  rintro n _ ⟨h, tk, m, t', u', x, y, rfl, F, hma, hmx, hmlo, hmhi, hx, hy, hyl, rfl⟩
  refine Tr.use (ref := h) (b := decide (x < y)) (tr_cmp (R₁ := eqv (.int x t')) (R₂ := eqv (.int y u')) (ev_local hmlo) (ev_local hmhi) fun a b s' E' F' ha hb => ?_) (fr_self F) fun s' kk => ?_
  · obtain rfl := ha
    obtain rfl := hb
    exact PyProof.Rows.lt_int ⟨by congr 1; simp, krefl _⟩
  obtain ⟨h₆, t₆, rfl, k₆⟩ := kk
  have F := F.keptAll k₆
  by_cases hxy : x < y
  · rw [decide_eq_true hxy]
    rw [if_pos rfl]
    have N : News s.heap s.heap.objs.size h₆ [] := News.nil
    -- mid
    refine wpAny_execs_cons (asgI F N (R := isI (((x + y) / 2 : Nat) : Int)) (ev_bin (R₁ := isI ((x + y : Nat) : Int)) (ev_bin (R₁ := eqv (.int x t')) (R₂ := eqv (.int y u')) (ev_local hmlo) (ev_local hmhi) fun a b s' E' F' ha hb => ?_) ev_int fun a b s' E' F' ha hb => ?_) (fun v h x => x) fun v h₇ t₇ hv F₇ N₇ => ?_)
    · obtain rfl := ha
      obtain rfl := hb
      exact add_int ⟨⟨_, by rw [Int.natCast_add]⟩, kof (Sub.refl _)⟩
    · obtain ⟨_, rfl⟩ := ha
      obtain ⟨_, rfl⟩ := hb
      refine floordiv_int (by decide) ⟨⟨s'.toks, ?_⟩, kof (Sub.refl _)⟩ ?_
      · rw [Int.fdiv_eq_ediv_of_nonneg _ (by decide)]; rfl
      · exact .inl (PyProof.noPylong_small (by decide))
    obtain ⟨u₇, rfl⟩ := hv
    have hm1 : (x + y) / 2 < ps.length := by omega
    obtain ⟨p, hp⟩ : ∃ p, ps[(x + y) / 2]? = some p := ⟨_, List.getElem?_eq_getElem hm1⟩
    have hr := rank_at ho (q := q) hp
    -- if a[mid] < x
    refine wpAny_execs_cons (if_ (ref := h₇) (b := decide (p < q)) (fr_self F₇) (tr_cmp (R₁ := isP p) (R₂ := eqv (.bytes (PB q).toArray t)) (ev_sub (R₁ := eqv l) (R₂ := eqv (.int (((x + y) / 2 : Nat) : Int) u₇)) (ev_local (upd_ne (by decide) hma)) (ev_local upd_at) fun a b s' E' F' ha hb' => ?_) (ev_local (upd_ne (by decide) hmx)) fun a b s' E' F' ha hb => ?_) fun s' kk => ?_)
    · obtain rfl := ha
      refine sub_list (k := (x + y) / 2) ((isO fun vs => PA vs ps).st _ _ _ hl fun b o e => F'.keep b o (F₇.keep b o e)) ⟨_, hb'⟩ (fun vs hvs => ?_) (by omega)
      obtain ⟨v, hv, hvp⟩ := pa_get' hvs hp
      exact ⟨v, hv, hvp⟩
    · obtain ⟨_, rfl⟩ := ha
      obtain rfl := hb
      exact lt_P ⟨rfl, krefl _⟩
    obtain ⟨h₈, t₈, rfl, k₈⟩ := kk
    have F₈ := F₇.keptAll k₈
    have N₈ : News s.heap s.heap.objs.size h₈ [] := News.nil
    by_cases hpq : p < q
    · rw [decide_eq_true hpq]
      refine wpAny_execs_cons (asgI F₈ N₈ (R := isI (((x + y) / 2 + 1 : Nat) : Int)) (ev_bin (R₁ := eqv (.int (((x + y) / 2 : Nat) : Int) u₇)) (ev_local upd_at) ev_int fun a b s' E' F' ha hb => ?_) (fun v h x => x) fun v h₉ t₉ hv F₉ N₉ => ?_)
      · obtain rfl := ha
        obtain ⟨_, rfl⟩ := hb
        exact add_int ⟨⟨_, by rw [Int.natCast_add]; rfl⟩, kof (Sub.refl _)⟩
      obtain ⟨u₉, rfl⟩ := hv
      refine wpAny_execs_nil (wpAny_execs_nil ?_)
      have := hr.mp hpq
      exact ⟨y - ((x + y) / 2 + 1), by omega, h₉, t₉, _, u₉, u', (x + y) / 2 + 1, y, rfl, F₉, upd_ne (by decide) (upd_ne (by decide) hma), upd_ne (by decide) (upd_ne (by decide) hmx), upd_at, upd_ne (by decide) (upd_ne (by decide) hmhi), by omega, hy, hyl, rfl⟩
    · rw [decide_eq_false hpq]
      refine wpAny_execs_cons (asgI F₈ N₈ (R := isI (((x + y) / 2 : Nat) : Int)) (Ev.mono (ev_local (v := .int (((x + y) / 2 : Nat) : Int) u₇) upd_at) fun v h e => ⟨_, e⟩) (fun v h x => x) fun v h₉ t₉ hv F₉ N₉ => ?_)
      obtain ⟨u₉, rfl⟩ := hv
      refine wpAny_execs_nil (wpAny_execs_nil ?_)
      have : ¬ (x + y) / 2 < rank ps q := fun h => hpq (hr.mpr h)
      exact ⟨(x + y) / 2 - x, by omega, h₉, t₉, _, t', u₉, x, (x + y) / 2, rfl, F₉, upd_ne (by decide) (upd_ne (by decide) hma), upd_ne (by decide) (upd_ne (by decide) hmx), upd_ne (by decide) (upd_ne (by decide) hmlo), upd_at, hx, by omega, by omega, rfl⟩
  · rw [decide_eq_false hxy]
    rw [if_neg Bool.false_ne_true]
    have : x = rank ps q := by omega
    subst this
    refine wpAny_execs_nil (wpAny_execs_nil ?_)
    refine wpAny_execs_cons (wpAny_Return_some (Ev.use (ref := h₆) (ev_local hmlo) (fr_self F) fun v s' hv kk => ?_))
    obtain rfl := hv
    exact ⟨⟨_, rfl⟩, ktrans (kof F.keep) kk⟩
theorem bisect_c {w : World} {A : Around} {s : Shared} {k : Nat} (S : Sta w s.heap) (rm : Rm A (k + 1)) {ps : List (Fin 24)} {q : Fin 24} {l : Value} {t u : Tok} {args : List Value}
    (ha : args = [l, .bytes (PB q).toArray t] ∨ args = [l, .bytes (PB q).toArray t, .int 0 u, .none]) (hl : (isO fun vs => PA vs ps).p l s.heap) (ho : ps.Pairwise (· ≤ ·)) (hz : ps.length ≤ 500) :
    Cl w A (.ref 39) args (isI (rank ps q)) s := by
  rcases ha with rfl | rfl
  · refine bisect_b S rm (t := t) (u := 215) ?_ hl ho hz
    rw [show fdOf w 39 = fnOf _ _ _ _ _ _ _ _ _ _ _ _ by with_unfolding_all rfl]
    intro M A E Q h
    with_unfolding_all refine wp_loadc (a := 31) (S.K _ _ (by with_unfolding_all rfl)) ?_
    with_unfolding_all refine wp_loadc (a := 32) (S.K _ _ (by with_unfolding_all rfl)) ?_
    exact wpAny_pure h
  · refine bisect_b S rm (t := t) (u := u) ?_ hl ho hz
    rw [show fdOf w 39 = fnOf _ _ _ _ _ _ _ _ _ _ _ _ by with_unfolding_all rfl]
    intro M A E Q h
    with_unfolding_all refine wp_loadc (a := 31) (S.K _ _ (by with_unfolding_all rfl)) ?_
    with_unfolding_all refine wp_loadc (a := 32) (S.K _ _ (by with_unfolding_all rfl)) ?_
    exact wpAny_pure h
end Mine
end

section
open PySem PySem.W PyProof.Rows PySem.Calls
set_option maxRecDepth 100000
set_option linter.unusedVariables false
set_option maxHeartbeats 4000000
namespace Mine

/-- where it stands or goes in -/
def insP (ps : List (Fin 24)) (q : Fin 24) : List (Fin 24) := ps.take (rank ps q) ++ q :: ps.drop (rank ps q)
theorem mem_rank {ps : List (Fin 24)} (ho : ps.Pairwise (· ≤ ·)) (q : Fin 24) : q ∈ ps ↔ ps[rank ps q]? = some q := by
  constructor
  · intro hm
    obtain ⟨i, hi⟩ := List.mem_iff_getElem?.mp hm
    have h1 := rank_at ho (q := q) hi
    have h2 : ¬ i < rank ps q := fun h => absurd (h1.mpr h) (by omega)
    have hlt : i < ps.length := by
      by_cases h : i < ps.length
      · exact h
      · rw [List.getElem?_eq_none (by omega)] at hi; cases hi
    have hr : rank ps q < ps.length := by omega
    have e := List.getElem?_eq_getElem hr
    rw [e]
    have h3 := rank_at ho (q := q) e
    have h4 : ¬ ps[rank ps q] < q := fun h => absurd (h3.mp h) (by omega)
    by_cases hir : rank ps q = i
    · subst hir; rw [← e]; exact hi
    · have hp := List.pairwise_iff_getElem.mp ho (rank ps q) i hr hlt (by omega)
      rw [List.getElem?_eq_getElem hlt] at hi
      cases hi
      congr 1
      omega
  · exact List.mem_of_getElem?
theorem insP_sorted {ps : List (Fin 24)} (ho : ps.Pairwise (· ≤ ·)) (q : Fin 24) : (insP ps q).Pairwise (· ≤ ·) := by
  unfold insP
  have h1 : ∀ x ∈ ps.take (rank ps q), x < q := fun x hx => by
    obtain ⟨i, hi⟩ := List.mem_iff_getElem?.mp hx
    rw [List.getElem?_take] at hi
    split at hi
    · exact (rank_at ho hi).mpr ‹_›
    · cases hi
  have h2 : ∀ x ∈ ps.drop (rank ps q), q ≤ x := fun x hx => by
    obtain ⟨i, hi⟩ := List.mem_iff_getElem?.mp hx
    rw [List.getElem?_drop] at hi
    have := rank_at ho (q := q) hi
    have : ¬ x < q := fun h => absurd (this.mp h) (by omega)
    omega
  rw [List.pairwise_append]
  refine ⟨ho.sublist (List.take_sublist _ _), List.pairwise_cons.mpr ⟨h2, ho.sublist (List.drop_sublist _ _)⟩, fun a ha b hb => ?_⟩
  have := h1 a ha
  rcases List.mem_cons.mp hb with rfl | hb
  · omega
  · have := h2 b hb; omega
theorem insP_length (ps : List (Fin 24)) (q : Fin 24) : (insP ps q).length = ps.length + 1 := by
  unfold insP
  have := rank_le ps q
  rw [List.length_append, List.length_take, List.length_cons, List.length_drop]
  omega

section
variable {w : World} {A : Around} {env : Env} {ref h₀ : Heap} {m : Str → Option Value} {R R₁ R₂ R₃ R₄ : VP} {E : Value → Shared → Prop} {s : Shared} {news : List (Addr × Obj)}
theorem ev_and {x y : Expr} {pos : Pos} {a b : Bool} (H₁ : Ev w A env ref m x (isB a)) (H₂ : a = true → Ev w A env ref m y (isB b)) : Ev w A env ref m (.BoolOp .And [x, y] pos) (isB (a && b)) := fun s E F =>
  wpAny_And2 (H₁.use F fun v s₁ hv k => by
    obtain rfl : v = .bool a := hv
    refine wpAny_truthy_bool ?_
    cases a with
    | false => exact ⟨rfl, k⟩
    | true => exact (H₂ rfl).use (F.keeps (ksub k)) fun v s₂ hv k₂ => ⟨hv, ktrans k k₂⟩)
theorem ev_call4 {f : Value} {fe e₁ e₂ e₃ e₄ : Expr} {pos : Pos} (S : Sta w ref) (hf : Cbl w f) (Hf : Ev w A env ref m fe (eqv f)) (H₁ : Ev w A env ref m e₁ R₁) (H₂ : Ev w A env ref m e₂ R₂) (H₃ : Ev w A env ref m e₃ R₃) (H₄ : Ev w A env ref m e₄ R₄)
    (h : ∀ a b c d s, Fm ref env.locals m s.heap → R₁.p a s.heap → R₂.p b s.heap → R₃.p c s.heap → R₄.p d s.heap → Cl w A f [a, b, c, d] R s)
    (hc : eval (.Call fe [e₁, e₂, e₃, e₄] [] pos) env = (do callWith pos (← eval fe env) [] (backTo pos (starEach [e₁, e₂, e₃, e₄] env)) (backToKw pos (keywordEach [] env))) := by rfl)
    (x₁ : starEach [e₁, e₂, e₃, e₄] env = (false, eval e₁ env) :: starEach [e₂, e₃, e₄] env := by rfl) (x₂ : starEach [e₂, e₃, e₄] env = (false, eval e₂ env) :: starEach [e₃, e₄] env := by rfl)
    (x₃ : starEach [e₃, e₄] env = (false, eval e₃ env) :: starEach [e₄] env := by rfl) (x₄ : starEach [e₄] env = (false, eval e₄ env) :: starEach [] env := by rfl)
    (hp : (backTo pos (starEach [e₂, e₃, e₄] env)).any (·.1) = false := by rfl) : Ev w A env ref m (.Call fe [e₁, e₂, e₃, e₄] [] pos) R := fun s E F => by
  refine Call_ (Hf.use F fun v s₁ hv k => ?_) hc
  obtain rfl : v = f := hv
  refine cw S hf ?_ x₁ hp
  refine spliced_more (H₁.use (F.keeps (ksub k)) fun a s₂ ha k₂ => ?_) x₁
  have q₂ := ktrans k k₂
  refine spliced_more (H₂.use (F.keeps (ksub q₂)) fun b s₃ hb k₃ => ?_) x₂
  have q₃ := ktrans q₂ k₃
  refine spliced_more (H₃.use (F.keeps (ksub q₃)) fun c s₄ hc k₄ => ?_) x₃
  have q₄ := ktrans q₃ k₄
  refine spliced_more (H₄.use (F.keeps (ksub q₄)) fun d s₅ hd k₅ => spliced_none ?_) x₄
  have q₅ := ktrans q₄ k₅
  exact ⟨(F.keeps (ksub q₅)).keep, (h a b c d s₅ (F.keeps (ksub q₅)) (R₁.st _ _ _ ha (ksub (ktrans k₃ (ktrans k₄ k₅)))) (R₂.st _ _ _ hb (ksub (ktrans k₄ k₅))) (R₃.st _ _ _ hc (ksub k₅)) hd).use fun r s₆ hr k₆ => ⟨hr, ktrans q₅ k₆⟩⟩
/-- a method of a built-in type's -/
theorem meth {o : Expr} {name : Str} {apos pos : Pos} {args : List Expr} {T id : String} {Q : Value → Shared → Prop} {ov : Value} (F : Fm ref env.locals m s.heap) (Ho : Ev w A env ref m o (eqv ov))
    (hT : ∀ s' : Shared, Sub ref s'.heap → s'.TypeIs ov T) (plain : PlainAttrs T) (slot : Slot T name id) (hty : typeOf (.builtin id) = pure (.type "method_descriptor"))
    (hd : ∀ s' : Shared, Sub ref s'.heap → ∀ a, ov = .ref a → ∃ o, s'.heap.get? a = some o ∧ o.dict = none)
    (k : ∀ s', Keeps s s' → Fm ref env.locals m s'.heap → wpAny (model PySem.Challenge.rw_ho0001_01.row.prog w) A (callWith pos (.builtin id) [ov] (backTo pos (starEach args env)) []) Q E s')
    {pl : Sem Bool}
    (he : eval (.Call (.Attribute o name apos) args [] pos) env = (do
      let ov ← eval o env
      standAt apos.atName
      let (f, first) ← holding [ov] (getMethod ov name pl)
      callWith pos f first (backTo pos (starEach args env)) []) := by rfl) :
    wpAny (model PySem.Challenge.rw_ho0001_01.row.prog w) A (eval (.Call (.Attribute o name apos) args [] pos) env) Q E s := by
  refine MethodCall_ (Ho.use F fun v s' hv kk => ?_) he
  obtain rfl : v = ov := hv
  have F' := F.keeps (ksub kk)
  exact getMethod_builtin (hT s' F'.keep) plain slot hty (hd s' F'.keep) (k s' kk F')
theorem insert_at {D : Addr} {l : List Value} {n k : Nat} {u : Tok} {y : Value} {Q : Value → Shared → Prop} (ho : s.heap.get? D = some (PySem.W.listOf l.toArray n)) (hk : k ≤ l.length) (hz : l.length ≤ 1000)
    (h : ∀ h', Heap.SameBut D s.heap h' → h'.get? D = some (PySem.W.listOf (l.take k ++ y :: l.drop k).toArray (n + 1)) → Q .none { s with heap := h' }) :
    wpAny (model PySem.Challenge.rw_ho0001_01.row.prog w) A (call (.builtin "list.insert") [.ref D, .int (k : Int) u, y]) Q E s := by
  have hz' : l.toArray.size ≤ sizeLine := by rw [List.size_toArray, sizeLine_eq]; omega
  generalize hx : (k : Int) = x
  have hf : ¬(!Builtin.List.listFitsIndex x) = true := by
    simp only [Builtin.List.listFitsIndex, Bool.not_eq_true', Bool.not_eq_false, Bool.and_eq_true, decide_eq_true_eq]
    omega
  have g := PySem.AutoSeq1.list_insert_list_int_val_1 D l.toArray n x u y hf hz'
  obtain ⟨f, hfd⟩ : ∃ f : Array Value → Array Value, f = fun xs => have k := if x < 0 then (x + (xs.size : Int)).toNat else min x.toNat xs.size; (xs.extract 0 k).push y ++ xs.extract k := ⟨_, rfl⟩
  rw [← hfd] at g
  have e := PySem.IsL.update (h := s.heap) (l := D) (items := l.toArray) (n := n) ho f
  have e2 : f l.toArray = (l.take k ++ y :: l.drop k).toArray := by
    subst hfd
    show (l.toArray.extract 0 (if x < 0 then (x + (l.toArray.size : Int)).toNat else min x.toNat l.toArray.size)).push y ++ l.toArray.extract (if x < 0 then (x + (l.toArray.size : Int)).toNat else min x.toNat l.toArray.size) = _
    have hkk : (if x < 0 then (x + (l.toArray.size : Int)).toNat else min x.toNat l.toArray.size) = k := by
      rw [if_neg (by omega), List.size_toArray, ← hx, Int.toNat_natCast, Nat.min_eq_left hk]
    rw [hkk]
    exact kl_ins_eq l k y
  rw [e2] at e
  rw [if_neg (by
    simp only [List.size_toArray, List.length_append, List.length_take, List.length_cons, List.length_drop, beq_iff_eq]
    omega)] at e
  exact call_meets PySem.F.slot_list_insert ⟨_, ho, rfl⟩ PySem.F.entry_list_insert (PySem.F.args_list_insert_3 _ _ _) g ⟨ho, h _ (Heap.SameBut.update ..) e⟩
end

theorem has_c {w : World} {A : Around} {s : Shared} {k : Nat} (S : Sta w s.heap) (rm : Rm A (k + 2)) {ps : List (Fin 24)} {q : Fin 24} {l : Value} {t : Tok}
    (hl : (isO fun vs => PA vs ps).p l s.heap) (ho : ps.Pairwise (· ≤ ·)) (hz : ps.length ≤ 500) :
    Cl w A (.ref 51) [l, .bytes (PB q).toArray t] (isB (decide (q ∈ ps))) s := fun E => by
  refine wpAny_call ?_
  refine' enterF S rm (f := 51) (binds := [(Str.ofString "order", l), (Str.ofString "one", .bytes (PB q).toArray t)]) ?ho ?hcd ?hb ?hl ?_ ?hc ?h1 ?h2 ?h3
  case ho => with_unfolding_all rfl
  case hcd => kernel_rfl
  case hb => exact BindsTo.of_eq rfl
  case hl => exact rfl
  case hc => decide
  case h1 => exact rfl
  case h2 => exact rfl
  case h3 => exact rfl
  intro h₁ tk F rm'
  have N : News s.heap s.heap.objs.size h₁ [] := News.nil
  have S₁ : Sta w h₁ := S.keeps F.keep
  have up : ∀ {h' : Heap}, Sub s.heap h' → (isO fun vs => PA vs ps).p l h' := fun k => (isO fun vs => PA vs ps).st _ _ _ hl k
  refine wpAny_execs_cons (asgI F N (R := isI (rank ps q : Nat)) (ev_call2 (f := .ref 39) (R₁ := eqv l) (R₂ := eqv (.bytes (PB q).toArray t)) S₁ (.inr (.inr (by kernel_rfl))) (ev_glob S₁ (by with_unfolding_all rfl)) (ev_local (by rfl)) (ev_local (by rfl)) fun a b s' F' ha hb => ?_) (fun v h x => x) fun v h₂ t₂ hv F₂ N₂ => ?_)
  · obtain rfl := ha
    obtain rfl := hb
    exact bisect_c (u := 0) (S₁.keeps F'.keep) rm' (.inl rfl) (up fun b o e => F'.keep b o (F.keep b o e)) ho hz
  obtain ⟨u₂, rfl⟩ := hv
  have S₂ : Sta w h₂ := S.keeps F₂.keep
  have e : decide (q ∈ ps) = (decide (rank ps q < ps.length) && decide (ps[rank ps q]? = some q)) := by
    rw [Bool.eq_iff_iff, Bool.and_eq_true, decide_eq_true_eq, decide_eq_true_eq, decide_eq_true_eq, mem_rank ho]
    constructor
    · intro h
      refine ⟨?_, h⟩
      by_cases hh : rank ps q < ps.length
      · exact hh
      · rw [List.getElem?_eq_none (by omega)] at h; cases h
    · exact fun h => h.2
  refine wpAny_execs_cons (wpAny_Return_some (Ev.use (ref := h₂) (R := isB (decide (rank ps q < ps.length) && decide (ps[rank ps q]? = some q))) (ev_and (ev_cmp (R₁ := eqv (.int (rank ps q : Nat) u₂)) (R₂ := isI (ps.length : Nat)) (ev_local upd_at)
      (ev_call1 (R₁ := eqv l) S₂ (.inr (.inl ⟨_, rfl⟩)) (ev_boot S₂ (by kernel_rfl) (by rfl)) (ev_local (by rfl)) fun a s' F' ha => ?_) fun a b s' E' F' ha hb => ?_) fun hlt => ?_) (fr_self F₂) fun v s' hv kk => ?_))
  · obtain rfl := ha
    exact cl_len (isO_mono (fun vs h => pa_len h) (up fun b o e => F'.keep b o (F₂.keep b o e))) (by omega)
  · obtain rfl := ha
    obtain ⟨_, rfl⟩ := hb
    exact PyProof.Rows.lt_int ⟨by show Value.bool _ = Value.bool _; congr 1; simp, krefl _⟩
  · simp only [decide_eq_true_eq] at hlt
    refine ev_cmp (R₁ := isP ps[rank ps q]) (R₂ := eqv (.bytes (PB q).toArray t)) (ev_sub (R₁ := eqv l) (R₂ := eqv (.int (rank ps q : Nat) u₂)) (ev_local (by rfl)) (ev_local upd_at) fun a b s' E' F' ha hb => ?_) (ev_local (by rfl)) fun a b s' E' F' ha hb => ?_
    · obtain rfl := ha
      refine sub_list (k := rank ps q) (up fun b o e => F'.keep b o (F₂.keep b o e)) ⟨_, hb⟩ (fun vs hvs => ?_) (by omega)
      obtain ⟨v, hv, hvp⟩ := pa_get' hvs (List.getElem?_eq_getElem hlt)
      exact ⟨v, hv, hvp⟩
    · obtain ⟨_, rfl⟩ := ha
      obtain rfl := hb
      refine eq_P ⟨?_, krefl _⟩
      show Value.bool _ = Value.bool _
      exact congrArg Value.bool (decide_eq_decide.mpr (by rw [List.getElem?_eq_getElem hlt, Option.some.injEq]))
  · obtain rfl := hv
    refine ⟨?_, ktrans (kof F₂.keep) kk⟩
    rw [e]; rfl

theorem insort_c {w : World} {A : Around} {E : Value → Shared → Prop} {s : Shared} {k : Nat} {Q : Value → Shared → Prop} (S : Sta w s.heap) (rm : Rm A (k + 2)) {ps : List (Fin 24)} {q : Fin 24} {D : Addr} {vs : List Value} {n : Nat} {t : Tok}
    (hD : s.heap.get? D = some (PySem.W.listOf vs.toArray n)) (hP : PA vs ps) (ho : ps.Pairwise (· ≤ ·)) (hz : ps.length ≤ 500)
    (K : ∀ h' tk vs' n', Heap.ExtBut D s.heap h' → h'.get? D = some (PySem.W.listOf vs'.toArray n') → PA vs' (insP ps q) → Q .none { s with heap := h', toks := tk }) :
    wpAny (model PySem.Challenge.rw_ho0001_01.row.prog w) A (call (.ref 30) [.ref D, .bytes (PB q).toArray t]) Q E s := by
  refine wpAny_call ?_
  refine' enterF S rm (f := 30) (binds := [(Str.ofString "a", .ref D), (Str.ofString "x", .bytes (PB q).toArray t), (Str.ofString "lo", .int 0 202), (Str.ofString "hi", .none), (Str.ofString "key", .none)]) ?ho ?hcd ?hb ?hl ?_ ?hc ?h1 ?h2 ?h3
  case ho => with_unfolding_all rfl
  case hcd => kernel_rfl
  case hb =>
    intro M A E Q h
    with_unfolding_all refine wp_loadc (a := 22) (S.K _ _ (by with_unfolding_all rfl)) ?_
    with_unfolding_all refine wp_loadc (a := 23) (S.K _ _ (by with_unfolding_all rfl)) ?_
    exact wpAny_pure h
  case hl => exact rfl
  case hc => decide
  case h1 => exact rfl
  case h2 => exact rfl
  case h3 => exact rfl
  intro h₁ tk F rm'
  have N : News s.heap s.heap.objs.size h₁ [] := News.nil
  have S₁ : Sta w h₁ := S.keeps F.keep
  have hl : (isO fun vs => PA vs ps).p (.ref D) s.heap := isO_at hD hP
  -- if key is None
  refine wpAny_execs_cons (if_ (ref := h₁) (b := true) (fr_self F) (tr_cmp (R₁ := eqv .none) (ev_local (by rfl)) ev_none fun a b s' E' F' ha hb => ?_) fun s' kk => ?_)
  · obtain rfl := ha
    obtain rfl := hb
    exact is_none ⟨rfl, krefl _⟩
  obtain ⟨h₂, t₂, rfl, k₂⟩ := kk
  have F := F.keptAll k₂
  have N : News s.heap s.heap.objs.size h₂ [] := News.nil
  have S₂ := S₁.keeps k₂
  refine wpAny_execs_cons (asgI F N (R := isI (rank ps q : Nat)) (ev_call4 (f := .ref 39) (R₁ := eqv (.ref D)) (R₂ := eqv (.bytes (PB q).toArray t)) (R₃ := eqv (.int 0 202)) (R₄ := eqv .none) S₂ (.inr (.inr (by kernel_rfl))) (ev_glob S₂ (by with_unfolding_all rfl)) (ev_local (by rfl)) (ev_local (by rfl)) (ev_local (by rfl)) (ev_local (by rfl)) fun a b c d s' F' ha hb hc hd => ?_) (fun v h x => x) fun v h₃ t₃ hv F₃ N₃ => ?_)
  · obtain rfl := ha
    obtain rfl := hb
    obtain rfl := hc
    obtain rfl := hd
    exact bisect_c (S₂.keeps F'.keep) rm' (.inr rfl) ((isO fun vs => PA vs ps).st _ _ _ hl fun b o e => F'.keep b o (F.keep b o e)) ho hz
  obtain ⟨u₃, rfl⟩ := hv
  refine wpAny_execs_nil ?_
  dsimp only
  have lenvs := pa_len hP
  have hD₃ : ∀ {h' : Heap}, Sub h₃ h' → h'.get? D = some (PySem.W.listOf vs.toArray n) := fun k => k _ _ (F₃.keep _ _ hD)
  refine wpAny_execs_cons (wpAny_Expr_any (meth (ref := h₃) (T := "list") (id := "list.insert") (ov := .ref D) (fr_self F₃) (ev_local (by rfl)) (fun s' k => ⟨_, hD₃ k, rfl⟩) PySem.F.plainAttrs_list PySem.F.slot_list_insert PySem.F.type_list_insert (fun s' k a e => by cases e; exact ⟨_, hD₃ k, rfl⟩) fun s' kk F' => ?_))
  refine PyProof.Rows.callWith_method1 (spliced_more (Ev.use (ref := h₃) (ev_local (v := .int (rank ps q : Nat) u₃) upd_at) F' fun v s₄ hv k₄ => ?_))
  obtain rfl := hv
  have F₄ := F'.keeps (ksub k₄)
  refine spliced_more (Ev.use (ref := h₃) (ev_local (v := .bytes (PB q).toArray t) (by rfl)) F₄ fun v s₅ hv k₅ => spliced_none ?_)
  obtain rfl := hv
  have F₅ := F₄.keeps (ksub k₅)
  refine insert_at (hD₃ F₅.keep) (by rw [lenvs]; exact rank_le _ _) (by omega) fun h₆ hs₆ hD₆ => wpAny_execs_nil ?_
  obtain ⟨h₅, t₅, rfl, q₅⟩ := ktrans (ktrans kk k₄) k₅
  refine K h₆ _ _ _ (fun b o hb e => hs₆.extBut b o hb (q₅ b o (F₃.keep b o e))) hD₆ ?_
  exact pa_append (pa_take hP _) (.cons ⟨_, rfl⟩ (pa_drop hP _))
end Mine
end

section
open PySem PySem.W PyProof.Rows PySem.Calls
set_option maxRecDepth 100000
set_option linter.unusedVariables false
set_option maxHeartbeats 400000
namespace Mine

section
variable {w : World} {A : Around} {env : Env} {ref h₀ : Heap} {m : Str → Option Value} {R R₁ R₂ R₃ R₄ : VP} {E : Value → Shared → Prop} {s : Shared} {news : List (Addr × Obj)}

/-- the tuple's two items, and the tuple -/
theorem tup2 {e₁ e₂ : Expr} {k : Nat} {pos : Pos} {Q : Value → Shared → Prop}
    (h : wpAny (model PySem.Challenge.rw_ho0001_01.row.prog w) A (eval e₁ env) (fun a s₁ => wpAny (model PySem.Challenge.rw_ho0001_01.row.prog w) A (eval e₂ env) (fun b s₂ =>
      Q (.ref s₂.heap.objs.size) { s₂ with heap := s₂.heap.push { cls := .type "tuple", data := .seq #[a, b] } }) E s₁) E s)
    (x₁ : starEach [e₁, e₂] env = (false, eval e₁ env) :: starEach [e₂] env := by rfl) (x₂ : starEach [e₂] env = (false, eval e₂ env) :: starEach [] env := by rfl) :
    wpAny (model PySem.Challenge.rw_ho0001_01.row.prog w) A (eval (.Tuple [e₁, e₂] k pos) env) Q E s := by
  refine PyProof.Rows.Tuple_ (spliced_more (wpAny_mono h (fun a s₁ h₁ => spliced_more (wpAny_mono h₁ (fun b s₂ h₂ => spliced_none ?_) fun _ _ x => x) x₂) fun _ _ x => x) x₁)
  exact wpAny_newObj_type h₂ (by show 2 ≤ sizeLine; rw [sizeLine_eq]; decide)
/-- x, y = e₁, e₂ -/
theorem asg2 {e₁ e₂ : Expr} {x y : Str} {px py tp vp pos : Pos} {k k' : Nat} {Q : Flow → Shared → Prop} (hh : A.handled = none)
    (h : wpAny (model PySem.Challenge.rw_ho0001_01.row.prog w) A (eval e₁ env) (fun a s₁ => wpAny (model PySem.Challenge.rw_ho0001_01.row.prog w) A (eval e₂ env) (fun b s₂ =>
      ∀ h', Sub s₂.heap h' → wpAny (model PySem.Challenge.rw_ho0001_01.row.prog w) A (storeName env y b) (fun _ s₃ => wpAny (model PySem.Challenge.rw_ho0001_01.row.prog w) A (storeName env x a) (fun _ => Q .next) E s₃) E { s₂ with heap := h' }) E s₁) E s)
    (hs : swapsWithSole [.Tuple [.Name x px, .Name y py] k tp] (.Tuple [e₁, e₂] k' vp) pos.line env = pure false := by rfl)
    (hw : swappedStores [.Tuple [.Name x px, .Name y py] k tp] (.Tuple [e₁, e₂] k' vp) env = pure (some [x, y]) := by rfl)
    (x₁ : starEach [e₁, e₂] env = (false, eval e₁ env) :: starEach [e₂] env := by rfl) (x₂ : starEach [e₂] env = (false, eval e₂ env) :: starEach [] env := by rfl) :
    wpAny (model PySem.Challenge.rw_ho0001_01.row.prog w) A (exec (.Assign [.Tuple [.Name x px, .Name y py] k tp] (.Tuple [e₁, e₂] k' vp) pos) env) Q E s := by
  refine Assign_Tuple_swapped (names := [x, y]) (tup2 (wpAny_mono h (fun a s₁ h₁ => wpAny_mono h₁ (fun b s₂ h₂ => ?_) fun _ _ x => x) fun _ _ x => x) x₁ x₂) hs hw
  obtain ⟨H, hH⟩ : ∃ H, H = s₂.heap.push { cls := .type "tuple", data := .seq #[a, b] } := ⟨_, rfl⟩
  have ht : IsTup H s₂.heap.objs.size #[a, b] := by subst hH; exact ⟨_, Heap.get?_push_size _ rfl, rfl, 0, rfl⟩
  have kH : Sub s₂.heap H := by subst hH; exact fun b' o e => Heap.get?_push_of_some _ e
  rw [← hH]
  have step := unpackItems_tuple (prog := PySem.Challenge.rw_ho0001_01.row.prog) (w := w) (A := A) (E := E) (s := { s₂ with heap := H }) (items := #[a, b])
    (Q := fun items s₂ => wpAny (model PySem.Challenge.rw_ho0001_01.row.prog w) A (assignInOrder ([x, y].reverse.map fun n => bindName env n) items.reverse) (fun _ => Q .next) E s₂) hh ht
  refine step fun h' hx => ?_
  have k : Sub s₂.heap h' := fun b' o e => hx b' o (Nat.ne_of_lt (Heap.lt_size (kH _ _ e))) (kH _ _ e)
  show wpAny _ A (assignInOrder [bindName env y, bindName env x] [b, a]) _ E _
  refine PyProof.Rows.assignInOrder_cons (wpAny_bindName (wpAny_mono (h₂ h' k) (fun _ s₃ h₃ => ?_) fun _ _ x => x))
  exact PyProof.Rows.assignInOrder_cons (wpAny_bindName (wpAny_mono h₃ (fun _ s₄ h₄ => PyProof.Rows.assignInOrder_nil h₄) fun _ _ x => x))
end

theorem shared_c {w : World} {A : Around} {s : Shared} {k : Nat} (S : Sta w s.heap) (rm : Rm A (k + 1)) (a b : Nat) {t u : Tok} :
    Cl w A (.ref 79) [.int (a : Int) t, .int (b : Int) u] (isI (Nat.gcd a b : Nat)) s := fun E => by
  refine wpAny_call ?_
  refine' enterF S rm (f := 79) (binds := [(Str.ofString "one", .int (a : Int) t), (Str.ofString "other", .int (b : Int) u)]) ?ho ?hcd ?hb ?hl ?_ ?hc ?h1 ?h2 ?h3
  case ho => with_unfolding_all rfl
  case hcd => kernel_rfl
  case hb => exact BindsTo.of_eq rfl
  case hl => exact rfl
  case hc => decide
  case h1 => exact rfl
  case h2 => exact rfl
  case h3 => exact rfl
  intro h₁ tk F rm'
  refine wpAny_execs_cons (wpAny_While (codeAny_whileLoop (fun n s' => ∃ h tk m t' u', ∃ x y : Nat, s' = { s with heap := h, toks := tk } ∧ Fr s.heap s.heap.objs.size h m ∧ m (Str.ofString "one") = some (.int (x : Int) t') ∧ m (Str.ofString "other") = some (.int (y : Int) u') ∧ Nat.gcd x y = Nat.gcd a b ∧ n = y) ?_ b ⟨h₁, tk, _, t, u, a, b, rfl, F, rfl, rfl, rfl, rfl⟩))
  rintro n _ ⟨h, tk, m, t', u', x, y, rfl, F, hx, hy, hg, rfl⟩
  refine Tr.use (ref := h) (b := decide (0 < n)) (tr_cmp (R₁ := eqv (.int n u')) (ev_local hy) ev_int fun a b s' E' F' ha hb => ?_) (fr_self F) fun s' kk => ?_
  · obtain rfl := ha
    obtain ⟨_, rfl⟩ := hb
    exact PyProof.Rows.gt_int ⟨by congr 1; simp, krefl _⟩
  obtain ⟨h₂, t₂, rfl, k₂⟩ := kk
  have F := F.keptAll k₂
  by_cases hn : 0 < n
  · rw [decide_eq_true hn, if_pos rfl]
    refine wpAny_execs_cons (asg2 rm'.hh (Ev.use (ref := h₂) (ev_local hy) (fr_self F) fun v s₃ hv k₃ => ?_))
    obtain rfl := hv
    obtain ⟨h₃, t₃, rfl, k₃⟩ := k₃
    have F := F.keptAll k₃
    refine Ev.use (ref := h₃) (R := isI ((x % n : Nat) : Int)) (ev_bin (R₁ := eqv (.int x t')) (R₂ := eqv (.int n u')) (ev_local hx) (ev_local hy) fun a b s' E' F' ha hb => ?_) (fr_self F) fun v s₄ hv k₄ => ?_
    · obtain rfl := ha
      obtain rfl := hb
      refine mod_int (by omega) ⟨⟨s'.toks, ?_⟩, kof (Sub.refl _)⟩
      rw [Int.fmod_eq_emod_of_nonneg _ (by omega)]
      rfl
    obtain ⟨u₄, rfl⟩ := hv
    obtain ⟨h₄, t₄, rfl, k₄⟩ := k₄
    have F := F.keptAll k₄
    intro h₅ k₅
    have F := F.keptAll k₅
    refine storeX_L F News.nil fun h₆ F₆ _ => storeX_L F₆ News.nil fun h₇ F₇ _ => wpAny_execs_nil ?_
    refine ⟨x % n, Nat.mod_lt _ hn, h₇, _, _, u', u₄, n, x % n, rfl, F₇, upd_at, upd_ne (by decide) upd_at, ?_, rfl⟩
    rw [← hg, Nat.gcd_comm x n, Nat.gcd_rec n x, Nat.gcd_comm]
  · rw [decide_eq_false hn, if_neg Bool.false_ne_true]
    refine wpAny_execs_nil ?_
    refine wpAny_execs_cons (wpAny_Return_some (Ev.use (ref := h₂) (ev_local hx) (fr_self F) fun v s' hv kk => ?_))
    obtain rfl := hv
    obtain rfl : n = 0 := by omega
    rw [← hg, Nat.gcd_zero_right]
    exact ⟨⟨_, rfl⟩, ktrans (kof F.keep) kk⟩
end Mine
end

section
open PySem PySem.W PyProof.Rows PySem.Calls
set_option maxRecDepth 100000
set_option linter.unusedVariables false
set_option maxHeartbeats 400000
namespace Mine

theorem rg_no_bytes : typeLookup (.type "range") "__bytes__" = pure none := by rw [typeLookup_type, builtinLookup_eq_fast]; kernel_rfl
theorem rg_no_index : typeLookup (.type "range") "__index__" = pure none := by rw [typeLookup_type, builtinLookup_eq_fast]; kernel_rfl
theorem rg_no_buffer : typeLookup (.type "range") "__buffer__" = pure none := by rw [typeLookup_type, builtinLookup_eq_fast]; kernel_rfl
theorem rg_split : splitId "range.__len__" = some ("range", "__len__") := by decide +kernel
theorem rg_sub : isSubtype (.type "range") (.type "range") = pure true := by rw [isSubtype_type]; kernel_rfl

section
variable {prog : Program} {w : World} {A : Around} {E : Value → Shared → Prop} {s : Shared}
theorem wp_loadc' {α : Type} {M : Model} {Q : α → Shared → Prop} {a : Addr} {p : Option Value} {k : Obj → Sem α} {o : Obj} (ho : s.heap.get? a = some o) (h : wpAny M A (k o) Q E s) : wpAny M A (Sem.load a p k) Q E s := wp_loadc ho h
theorem len_range {r : Addr} {a b : Int} {t u v : Tok} {n : Nat} {Q : Value → Shared → Prop} (hr : IsRange s.heap r a b 1 t u v) (hn : Builtin.Range.rangeSize a b 1 = (n : Int)) (hz : n ≤ 1000) (h : Q (.int (n : Int) (s.toks + 1)) { s with toks := s.toks + 1 + 1 }) :
    wpAny (model prog w) A (call (.builtin "len") [.ref r]) Q E s := by
  have hT : s.TypeIs (.ref r) "range" := ⟨_, hr, rfl⟩
  refine PyProof.Rows.call_len_slot hT PySem.F.slot_range_len (fun Q' hq => wpAny_call_entry PySem.F.slot_range_len hT PySem.F.entry_range_len ?_ (PySem.F.args_range_len_1 _)) (by omega) (by omega) h
  unfold Builtin.«range.__len__»
  refine wpAny_bind (wpAny_pure ?_)
  refine wpAny_bind (wp_loadc hr ?_)
  with_unfolding_all refine wp_loadc hr ?_
  with_unfolding_all refine wp_loadc hr ?_
  refine wpAny_pure ?_
  dsimp only
  rw [hn]
  have : ¬ ((n : Int) ≥ 2 ^ 63) := by omega
  rw [if_neg this]
  exact wpAny_bind (wpAny_mkInt (wpAny_pure ⟨_, rfl, hq⟩))

theorem bytes_loopW {R : Result → Shared → Prop} {I S : Addr} {fp wr : List Addr} {P : Nat → Value → Prop} {St : Nat → Heap → Prop} {ns : List Int} (W : Walks prog w A.in1 I fp wr ns.length P St) (hP : ∀ i v, P i v → ∃ n t, ns[i]? = some n ∧ v = .int n t)
    (hr : ∀ n ∈ ns, 0 ≤ n ∧ n < 256) (hz : ns.length ≤ sizeLine) (hS : S ∉ fp) :
    ∀ (k i : Nat) (s : Shared), ns.length - i = k → i ≤ ns.length → St i s.heap → s.heap.get? S = some { cls := .type "bytearray", data := .bytearray (byteArr (ns.take i)) } →
      (∀ h' t k', (∀ b o, b ∉ wr → b ≠ S → s.heap.get? b = some o → h'.get? b = some o) → R (.ok (.ret (.bytes (byteArr ns) t))) { s with heap := h', toks := k' }) →
      codeAny (model prog w) A (.builtin "bytes.__new__.loop" ⟨[.type "bytes", .ref I, .ref S], []⟩) R s := by
  have hSw : S ∉ wr := fun h => hS (W.sub _ h)
  intro k
  induction k with
  | zero =>
    intro i s hk hle hst hSo hR
    have hin : i = ns.length := by omega
    subst hin
    refine codeAny_builtin F.bm_entry_loop ?_
    rw [Around.under_plainId F.bm_plain_loop _]
    show wpAny _ A.in1 (pyNext (.ref I) >>= _) _ _ s
    refine wpAny_bind (W.done _ _ _ hst fun h' tk hk' => ?_)
    have hS' := hk' S _ hSw hSo
    refine wpAny_bind ?_
    unfold Builtin.Bytes.payload Builtin.Bytes.payload?
    refine wpAny_bind (wpAny_bind (wpAny_load hS' ?_))
    refine wpAny_pure (wpAny_pure ?_)
    rw [List.take_length]
    refine wpAny_bind (wpAny_mkBytes ?_ (by rw [byteArr_size]; exact hz))
    show wpAny _ _ (if (Value.type "bytes" == Value.type "bytes") = true then _ else _) _ _ _
    refine bm_if_true (by decide) ?_
    first
      | exact wpAny_pure (hR h' _ _ fun b o hb _ e => hk' b o hb e)
      | exact wpAny_bind (wpAny_pure (wpAny_pure (hR h' _ _ fun b o hb _ e => hk' b o hb e)))
  | succ k ih =>
    intro i s hk hle hst hSo hR
    have hlt : i < ns.length := by omega
    refine codeAny_builtin F.bm_entry_loop ?_
    rw [Around.under_plainId F.bm_plain_loop _]
    show wpAny _ A.in1 (pyNext (.ref I) >>= _) _ _ s
    refine wpAny_bind (W.item i _ _ _ hlt hst fun v h' tk hv hst' hk' => ?_)
    obtain ⟨n, t, hn, rfl⟩ := hP i v hv
    obtain ⟨h0, h1⟩ := hr n (List.mem_of_getElem? hn)
    have hS' := hk' S _ hSw hSo
    refine wpAny_bind (wpAny_holding (wpAny_of_eq (rfl : asIndex (.int n t) = pure n) ?_))
    refine wpAny_bind (wpAny_letGo ?_)
    refine bm_if_false (by simp only [Bool.or_eq_false_iff, decide_eq_false_iff_not]; omega) ?_
    refine wpAny_bind ?_
    show wpAny _ _ (updateBytearray S (·.push n.toNat.toUInt8)) _ _ _
    unfold updateBytearray
    refine wpAny_bind (wpAny_load hS' ?_)
    show wpAny _ _ (update S (Obj.mapBytearray (·.push n.toNat.toUInt8)) >>= fun _ => lookBehind S) _ _ _
    refine wpAny_bind (wpAny_update hS' ?_)
    have hS₂ : (h'.update S (Obj.mapBytearray (·.push n.toNat.toUInt8))).get? S = some { cls := .type "bytearray", data := .bytearray (byteArr (ns.take (i + 1))) } := by
      rw [byteArr_take hn]
      exact Heap.get?_update_self (Obj.mapBytearray (·.push n.toNat.toUInt8)) hS' rfl
    refine wpAny_lookBehind hS₂ ?_ ?_
    · show (if (byteArr (ns.take (i + 1))).size > sizeLine then some "bytearray:memory" else none) = none
      rw [if_neg]
      rw [byteArr_size, List.length_take]
      omega
    · refine wpAny_pure ⟨plainId_quiet F.bm_plain_loop _, ih (i + 1) { s with heap := h'.update S (Obj.mapBytearray (·.push n.toNat.toUInt8)), toks := tk } (by omega) hlt ?_ hS₂ fun h3 t' k' hk3 => ?_⟩
      · exact W.frame _ _ _ hst' fun b hb o e => (Heap.SameBut.update ..).extBut b o (fun h => hS (h ▸ hb)) e
      · exact hR h3 t' k' fun b o hbw hbS e => hk3 b o hbw hbS ((Heap.get?_update_other _ _ (Ne.symm hbS)).trans (hk' b o hbw e))

theorem bytes_new_range {r : Addr} {a : Int} {t u v : Tok} {n : Nat} {Q : Value → Shared → Prop} (hh : A.handled = none) (hr : IsRange s.heap r a (a + n) 1 t u v) (ha : 0 ≤ a) (hz : a + n ≤ 256)
    (hQ : ∀ h' t k, (∀ b o, s.heap.get? b = some o → h'.get? b = some o) → Q (.bytes (byteArr ((List.range n).map fun (i : Nat) => a + (i : Int))) t) { s with heap := h', toks := k }) :
    codeAny (model prog w) A (.call (.builtin "bytes.__new__") ⟨[.type "bytes", .ref r], []⟩) (wants Q E) s := by
  refine codeAny_of_tree ?_
  show wpAny _ A.in1 (do checkBuiltinCall "bytes.__new__" ⟨[.type "bytes", .ref r], []⟩; again (.builtin "bytes.__new__" ⟨[.type "bytes", .ref r], []⟩)) _ _ s
  refine wpAny_bind (wpAny_of_eq (F.bm_newCall _) (wpAny_pure ⟨plainId_quiet F.bm_plain _, codeAny_builtin F.bm_entry ?_⟩))
  rw [Around.under_plainId F.bm_plain _]
  have hT : s.TypeIs (.ref r) "range" := ⟨_, hr, rfl⟩
  have hsize : Builtin.Range.rangeSize a (a + n) 1 = (n : Int) := by rw [rangeSize_one]; split <;> omega
  unfold Builtin.«bytes.__new__»
  refine wpAny_bind (wpAny_of_eq (a := true) rfl ?_)
  refine bm_if_false rfl ?_
  refine wpAny_bind (wpAny_of_eq F.bm_sub ?_)
  refine bm_if_false rfl ?_
  refine wpAny_bind (wpAny_of_eq (F.bm_bind _) ?_)
  refine wpAny_bind (wpAny_of_eq (a := ()) rfl ?_)
  refine wpAny_bind (wpAny_of_eq (a := ()) rfl ?_)
  refine bm_if_false rfl ?_
  refine wpAny_bind (wpAny_specialOf hT rg_no_bytes ?_)
  refine wpAny_bind (wpAny_bind ?_)
  show wpAny _ _ (load r >>= _) _ _ _
  refine wpAny_bind (wpAny_load hr ?_)
  refine wpAny_pure (wpAny_pure ?_)
  refine bm_if_false rfl ?_
  refine wpAny_bind (wpAny_specialOf hT rg_no_index ?_)
  refine bm_if_true rfl ?_
  first
    | show wpAny _ _ (Builtin.Bytes.buffer? "bytes.__new__" (.ref r) true >>= _) _ _ _
    | (refine wpAny_bind ?_; show wpAny _ _ (Builtin.Bytes.buffer? "bytes.__new__" (.ref r) true >>= _) _ _ _)
  refine wpAny_bind ?_
  unfold Builtin.Bytes.buffer?
  refine wpAny_bind (wpAny_specialOf hT rg_no_buffer ?_)
  refine wpAny_bind (wpAny_specialOf hT rg_no_buffer ?_)
  refine wpAny_pure ?_
  have hsm : Builtin.Range.small a (a + n) 1 = true := small_one (by omega) (by omega) (by omega) (by omega)
  refine wpAny_bind (wpAny_tryCatch (wpAny_pyIter_range hr hsm ?_))
  rw [hsize]
  obtain ⟨H, hH⟩ : ∃ H, H = s.heap.push { cls := .type "range_iterator", data := .fields #[rawInt a, rawInt (n : Int), rawInt 1] } := ⟨_, rfl⟩
  have kH : Sub s.heap H := by subst hH; exact fun b o e => Heap.get?_push_of_some _ e
  have hI : IsRangeIter H s.heap.objs.size a (n : Int) 1 := by subst hH; exact Heap.get?_push_size _ rfl
  have hHs : H.objs.size = s.heap.objs.size + 1 := by subst hH; exact Heap.size_push _ _
  rw [← hH]
  have hr₁ : IsRange H r a (a + n) 1 t u v := kH _ _ hr
  have hT₁ : ({ s with heap := H } : Shared).TypeIs (.ref r) "range" := ⟨_, hr₁, rfl⟩
  refine wpAny_bind (wpAny_holding ?_)
  unfold Builtin.Bytes.lengthHint
  refine wpAny_bind (wpAny_specialOf hT₁ PySem.F.slot_range_len.lookup ?_)
  dsimp only
  rw [rg_split]
  dsimp only
  refine wpAny_bind (wpAny_isInstance hT₁ rg_sub ?_)
  refine bm_if_false rfl ?_
  refine bm_if_false (by decide +kernel) ?_
  refine bm_if_true rfl ?_
  refine wpAny_bind (wpAny_rule ?_)
  refine wpAny_bind (wpAny_attempt (len_range (s := { s with heap := H }) (n := n) hr₁ hsize (by omega) ?_))
  refine wpAny_bind (wpAny_pure ?_)
  refine bm_if_false (by
    simp only [Builtin.Bytes.tooLong, decide_eq_false_iff_not, sizeLine_eq]
    omega) ?_
  refine wpAny_pure ?_
  refine wpAny_bind ?_
  unfold Builtin.Bytes.newBytearray
  refine wpAny_newObj_type ?_ (Nat.zero_le _)
  dsimp only
  have main := bytes_loopW (prog := prog) (w := w) (A := A) (R := wants Q E) (I := s.heap.objs.size) (S := H.objs.size) (ns := (List.range n).map fun (i : Nat) => a + (i : Int))
    (by
      have := (Walks.range (prog := prog) (w := w) (A := A.in1) hh s.heap.objs.size a 1 n).bound
      simpa using this)
    (by
      rintro i v ⟨hi, t, rfl⟩
      exact ⟨a + (i : Int), t, by simp [hi], by simp⟩)
    (by
      intro x hx
      simp only [List.mem_map, List.mem_range] at hx
      obtain ⟨i, hi, rfl⟩ := hx
      omega)
    (by simp; rw [sizeLine_eq]; omega)
    (by rw [hHs]; simp)
    n 0 { s with heap := H.push { cls := .type "bytearray", data := .bytearray #[] }, toks := s.toks + 1 + 1 } (by simp) (Nat.zero_le _) ?_ (Heap.get?_push_size _ rfl)
    fun h' t k hk => hQ h' t k fun b o e => hk b o (fun hm => by
      have := Heap.lt_size e
      rw [List.mem_singleton.mp hm] at this
      exact Nat.lt_irrefl _ this) (fun hb => by
      have := Heap.lt_size e
      rw [hb, hHs] at this
      exact Nat.lt_irrefl _ (Nat.lt_of_succ_lt this)) (Heap.get?_push_of_some _ (kH b o e))
  · first
      | exact wpAny_pure ⟨plainId_quiet F.bm_plain_loop _, main⟩
      | exact wpAny_pure (wpAny_pure ⟨plainId_quiet F.bm_plain_loop _, main⟩)
  · have : (H.push { cls := .type "bytearray", data := .bytearray #[] }).get? s.heap.objs.size = _ := Heap.get?_push_of_some _ hI
    simpa [IsRangeIter] using this
theorem call_bytes_range {r : Addr} {a : Int} {t u v : Tok} {n : Nat} {Q : Value → Shared → Prop} (hh : A.handled = none) (hr : IsRange s.heap r a (a + n) 1 t u v) (ha : 0 ≤ a) (hz : a + n ≤ 256)
    (hQ : ∀ h' t k, (∀ b o, s.heap.get? b = some o → h'.get? b = some o) → Q (.bytes (byteArr ((List.range n).map fun (i : Nat) => a + (i : Int))) t) { s with heap := h', toks := k }) :
    wpAny (model prog w) A (call (.type "bytes") [.ref r]) Q E s := by
  refine callType_codes (Q₁ := fun obj s₁ => s₁.TypeIs obj "bytes" ∧ Q obj s₁) F.bm_called (F.bm_typeCall _) F.entry_object_init
    (bytes_new_range (A := A.in1) hh hr ha hz fun h' t k hk => ⟨PySem.W.typeIs_bytes _ _ _, hQ h' t k hk⟩) fun obj s₁ h₁ => ?_
  exact ⟨h₁.1, F.args_object_init_2 obj _, object_init_meets F.bm_called.init.lookup F.bm_called.made (by decide) prog w A.in1 _ s₁ ⟨h₁.1, rfl, h₁.2⟩⟩
end

/-- the order that turns nothing -/
def idP : Fin 24 := 0
theorem ev_idP {w : World} {A : Around} {env : Env} {ref : Heap} {m : Str → Option Value} {p1 p2 p3 p4 p5 : Pos} {k : Nat} (S : Sta w ref) (hh : A.handled = none)
    (hb : ∀ {p}, Ev w A env ref m (.Name (Str.ofString "bytes") p) (eqv (.type "bytes"))) (hr : ∀ {p}, Ev w A env ref m (.Name (Str.ofString "range") p) (eqv (.type "range"))) :
    Ev w A env ref m (.Call (.Name (Str.ofString "bytes") p1) [.Call (.Name (Str.ofString "range") p2) [.Constant (.int 4) k p3] [] p4] [] p5) (isP idP) := by
  refine ev_call1 (f := .type "bytes") (R₁ := ⟨fun v h => ∃ r t u x, v = .ref r ∧ IsRange h r 0 (0 + (4 : Nat)) 1 t u x, fun v h h' x k => by obtain ⟨r, t, u, x, e, q⟩ := x; exact ⟨r, t, u, x, e, k _ _ q⟩⟩) S (.inl ⟨_, rfl⟩) hb ?_ ?_
  · refine ev_call1 (f := .type "range") (R₁ := isI 4) S (.inl ⟨_, rfl⟩) hr ev_int fun a s F ha E => ?_
    obtain ⟨t, rfl⟩ := ha
    exact call_range_1 ⟨⟨_, _, _, _, rfl, IsRange.new s.heap 0 4 1 _ _ _⟩, kof fun b o e => Heap.get?_push_of_some _ e⟩
  · rintro a s F ⟨r, t, u, x, rfl, hr⟩ E
    exact call_bytes_range (n := 4) hh hr (by decide) (by decide) fun h' t k hk => ⟨⟨t, congrArg (Value.bytes · t) (by decide +kernel)⟩, kof hk⟩
end Mine
end

section
open PySem PySem.W PyProof.Rows PySem.Calls
set_option maxRecDepth 100000
set_option linter.unusedVariables false
set_option maxHeartbeats 400000
namespace Mine

theorem int_no_buffer : typeLookup (.type "int") "__buffer__" = pure none := by rw [typeLookup_type, builtinLookup_eq_fast]; kernel_rfl
theorem slot_bytes_index : Slot "bytes" "index" "bytes.index" :=
  .of (owner := "bytes") (n := "index") (by rw [typeLookup_type, builtinLookup_eq_fast]; kernel_rfl) (by decide +kernel) (by decide +kernel) (by decide +kernel)
    (by first | exact .inl (by decide +kernel) | exact .inr (by decide +kernel)) (by rw [isSubtype_type]; kernel_rfl)
theorem type_bytes_index : typeOf (.builtin "bytes.index") = pure (.type "method_descriptor") := by show builtinType _ = _; rw [builtinType_eq_fast]; kernel_rfl
theorem entry_bytes_index : entryFor table "bytes.index" = some Builtin.«bytes.index» := entryFor_of_tree (by kernel_rfl)
theorem args_bytes_index (a b : Value) : argsOk "bytes.index" ⟨[a, b], []⟩ := by unfold argsOk; kernel_rfl
def posP (p : Fin 24) (i : Nat) : Nat := (PB p).findIdx fun c => c.toNat == i
theorem posP_find : ∀ p : Fin 24, ∀ i : Fin 4, Builtin.Bytes.find? (PB p).toArray #[(i.val : Int).toNat.toUInt8] 0 4 = some (posP p i) := by decide +kernel
theorem posP_lt : ∀ p : Fin 24, ∀ i : Fin 4, posP p i < 4 := by decide +kernel
theorem PB_pos : ∀ p : Fin 24, byteArr ((List.range 4).map fun (i : Nat) => ((posP p i : Nat) : Int)) = (PB (inv p)).toArray := by decide +kernel
theorem gives_bytes_index (p : Fin 24) (i : Fin 4) (t u : Tok) : Gives (Builtin.«bytes.index» ⟨[.bytes (PB p).toArray t, .int (i.val : Int) u], []⟩) (.int (posP p i : Nat)) := by
  refine .of_wp fun M A E s Q hq => ?_
  unfold Builtin.«bytes.index» Builtin.Bytes.searchM
  refine wpAny_bind ?_
  unfold Builtin.Bytes.searchArgs
  refine wpAny_bind (wpAny_of_eq (a := (Value.bytes (PB p).toArray t, [Value.int (i.val : Int) u])) (by rfl) ?_)
  refine wpAny_bind (wpAny_pure ?_)
  refine wpAny_bind (wpAny_pure ?_)
  refine wpAny_bind ?_
  show wpAny _ _ (Builtin.Bytes.buffer? _ (.int (i.val : Int) u)) _ _ _
  unfold Builtin.Bytes.buffer?
  refine wpAny_bind (wpAny_specialOf (typeIs_int s _ u) int_no_buffer ?_)
  refine wpAny_bind (wpAny_specialOf (typeIs_int s _ u) int_no_buffer ?_)
  refine wpAny_pure ?_
  refine wpAny_bind (wpAny_specialOf (typeIs_int s _ u) F.slot_int_index.lookup ?_)
  refine bm_if_false rfl ?_
  refine wpAny_bind (wpAny_of_eq (a := (i.val : Int)) (by rfl) ?_)
  refine bm_if_false (by simp only [Bool.or_eq_false_iff, decide_eq_false_iff_not]; omega) ?_
  refine wpAny_pure ?_
  have hz : (PB p).toArray.size = 4 := by rw [List.size_toArray]; exact PB_len p
  rw [hz]
  have e := posP_find p i
  show wpAny _ _ (match Builtin.Bytes.find? (PB p).toArray #[(i.val : Int).toNat.toUInt8] 0 4 with | some i => _ | none => _) _ _ _
  rw [e]
  exact wpAny_bind (wpAny_mkInt (wpAny_pure ⟨_, rfl, hq⟩))

section
variable {w : World} {A : Around} {env : Env} {ref h₀ : Heap} {m : Str → Option Value} {R R₁ R₂ R₃ R₄ : VP} {E : Value → Shared → Prop} {s : Shared} {news : List (Addr × Obj)}
theorem ev_meth1 {o e : Expr} {name : Str} {apos pos : Pos} {T id : String} {ov : Value} (Ho : Ev w A env ref m o (eqv ov)) (He : Ev w A env ref m e R₁)
    (hT : ∀ s' : Shared, Sub ref s'.heap → s'.TypeIs ov T) (plain : PlainAttrs T) (slot : Slot T name id) (hty : typeOf (.builtin id) = pure (.type "method_descriptor"))
    (hd : ∀ s' : Shared, Sub ref s'.heap → ∀ a, ov = .ref a → ∃ o, s'.heap.get? a = some o ∧ o.dict = none)
    (k : ∀ a s', Fm ref env.locals m s'.heap → R₁.p a s'.heap → Cl w A (.builtin id) [ov, a] R s')
    {pl : Sem Bool}
    (he : eval (.Call (.Attribute o name apos) [e] [] pos) env = (do
      let ov ← eval o env
      standAt apos.atName
      let (f, first) ← holding [ov] (getMethod ov name pl)
      callWith pos f first (backTo pos (starEach [e] env)) []) := by rfl)
    (x₁ : starEach [e] env = (false, eval e env) :: starEach [] env := by rfl) : Ev w A env ref m (.Call (.Attribute o name apos) [e] [] pos) R := fun s E F => by
  refine meth F Ho hT plain slot hty hd (fun s₁ k₁ F₁ => ?_) he
  refine PyProof.Rows.callWith_method1 (spliced_more (He.use F₁ fun a s₂ ha k₂ => spliced_none ?_) x₁) x₁ rfl
  have kk := ktrans k₁ k₂
  exact (k a s₂ (F.keeps (ksub kk)) ha).use fun v s₃ hv k₃ => ⟨hv, ktrans kk k₃⟩
def isRg (n : Nat) : VP := ⟨fun v h => ∃ r t u x, v = .ref r ∧ IsRange h r 0 (0 + (n : Int)) 1 t u x, fun v h h' x k => by obtain ⟨r, t, u, x, e, q⟩ := x; exact ⟨r, t, u, x, e, k _ _ q⟩⟩
theorem ev_range {fe : Expr} {p3 p4 : Pos} {k n : Nat} (S : Sta w ref) (hr : Ev w A env ref m fe (eqv (.type "range")))
    (hc : eval (.Call fe [.Constant (.int (n : Int)) k p3] [] p4) env = (do callWith p4 (← eval fe env) [] (backTo p4 (starEach [.Constant (.int (n : Int)) k p3] env)) (backToKw p4 (keywordEach [] env))) := by rfl) :
    Ev w A env ref m (.Call fe [.Constant (.int (n : Int)) k p3] [] p4) (isRg n) := by
  refine ev_call1 (f := .type "range") (R₁ := isI n) S (.inl ⟨_, rfl⟩) hr ev_int (fun a s F ha E => ?_) hc
  obtain ⟨t, rfl⟩ := ha
  exact call_range_1 ⟨⟨_, _, _, _, rfl, by rw [Int.zero_add]; exact IsRange.new s.heap 0 n 1 _ _ _⟩, kof fun b o e => Heap.get?_push_of_some _ e⟩
theorem it_range {n : Nat} {v : Value} (hh : A.handled = none) (h : (isRg n).p v s.heap) (hz : n ≤ 1000) : Iter w A v n (fun i v => i < n ∧ ∃ t, v = Value.int (i : Int) t) s := by
  obtain ⟨r, t, u, x, rfl, hr⟩ := h
  have := iter_range (w := w) hh hr (small_one (by omega) (by omega) (by omega) (by omega))
  simpa using this
end

theorem back_c {w : World} {A : Around} {s : Shared} {k : Nat} (S : Sta w s.heap) (rm : Rm A (k + 1)) {p : Fin 24} {t : Tok} : Cl w A (.ref 84) [.bytes (PB p).toArray t] (isP (inv p)) s := fun E => by
  refine wpAny_call ?_
  refine' enterC S rm (f := 84) (binds := [(Str.ofString "order", .bytes (PB p).toArray t)]) ?ho ?hcd ?hb ?hl ?_ ?h1 ?h2 ?h3
  case ho => with_unfolding_all rfl
  case hcd => kernel_rfl
  case hb => exact rfl
  case hl => exact rfl
  case h1 => exact rfl
  case h2 => exact rfl
  case h3 => exact rfl
  intro s₁ x rm'
  have S₁ : Sta w s₁.heap := S.keeps x.toInCall.keep
  have hc := x.cell (Str.ofString "order") _ rfl
  refine wpAny_execs_cons (wpAny_Return_some ?_)
  refine Ev.use (ref := s₁.heap) (m := _) (R := isP (inv p)) (ev_call1 (R₁ := isL s₁.heap fun ys => IA ys ((List.range 4).map fun (i : Nat) => ((posP p i : Nat) : Int))) S₁ (.inl ⟨_, rfl⟩) (ev_boot S₁ (by kernel_rfl) (by rfl)) ?_ ?_) ⟨Sub.refl _, x.toInCall.ns⟩ ?_
  · refine Ev.mono (ev_map (n := 4) (fun v y => ∀ n : Nat, vI v n → vI y (posP p n : Nat)) (ev_range (n := 4) S₁ (ev_boot S₁ (by kernel_rfl) (by rfl))) (fun s v F hv => it_range rm'.hh hv (by decide)) (fun C m₃ i v hv hm => ?_) (by decide)) ?_
    · obtain ⟨hi, t', rfl⟩ := hv
      refine Ev.mono (ev_meth1 (T := "bytes") (id := "bytes.index") (R₁ := eqv (.int (i : Int) t')) (R := isI (posP p i : Nat)) (ev_cell (c := s.heap.objs.size + 1) (by rfl) hc) (ev_local hm) (fun s' _ => PySem.W.typeIs_bytes _ _ _) PySem.W.FB.plainAttrs_bytes slot_bytes_index type_bytes_index (fun s' _ a e => nomatch e) fun a s' F' ha E' => ?_) ?_
      · obtain rfl := ha
        exact call_gives slot_bytes_index (PySem.W.typeIs_bytes _ _ _) entry_bytes_index (args_bytes_index _ _) (gives_bytes_index p ⟨i, hi⟩ _ _) ⟨⟨_, rfl⟩, kof (Sub.refl _)⟩
      · rintro y h hy n ⟨_, e⟩
        injection e with e1
        obtain rfl : i = n := by omega
        exact hy
    · rintro v h ⟨a, ys, n, rfl, hr, ha, vs, hlen, hP, hF⟩
      refine ⟨a, ys, n, rfl, hr, ha, ?_⟩
      have hv : Paired (fun v (i : Nat) => vI v i) vs (List.range 4) := pa_of (by simpa using hlen) fun i v j hv hj => by
        obtain ⟨hi, t, rfl⟩ := hP i v hv
        rw [List.getElem?_range hi] at hj
        cases hj; exact ⟨t, rfl⟩
      exact pa_map (H := vI) (f := fun (i : Nat) => ((posP p i : Nat) : Int)) (fun _ _ x => x) (pa_join (H := fun y (i : Nat) => vI y (posP p i : Nat)) (fun v y n h1 h2 => h1 n h2) hF hv)
  · intro a s' F ha E'
    refine wpAny_mono (cl_bytes rm'.hh (isO_of ha) ?_ ?_ E') (fun v s'' h => ⟨?_, h.2⟩) fun _ _ x => x
    · intro n hn
      simp only [List.mem_map, List.mem_range] at hn
      obtain ⟨i, hi, rfl⟩ := hn
      have := posP_lt p ⟨i, hi⟩
      simp only at this
      omega
    · simp
    · obtain ⟨t', e⟩ := h.1
      exact ⟨t', by rw [e, PB_pos]⟩
  · rintro v s' hv k
    obtain ⟨h₁, t₁, rfl, k₁⟩ := x.done
    exact ⟨hv, ktrans (kof k₁) k⟩
end Mine
end

section
open PySem PySem.W PyProof.Rows PySem.Calls
set_option maxRecDepth 100000
set_option linter.unusedVariables false
set_option maxHeartbeats 400000
namespace Mine

def powP (p : Fin 24) : Nat → Fin 24
  | 0 => idP
  | n + 1 => mul (powP p n) p
def tm (p : Fin 24) : Nat := if p = 0 then 1 else if mul p p = 0 then 2 else if mul (mul p p) p = 0 then 3 else 4
theorem tm_pos : ∀ p : Fin 24, 1 ≤ tm p ∧ tm p ≤ 4 := by decide +kernel
theorem tm_end : ∀ p : Fin 24, powP p (tm p) = idP := by decide +kernel
theorem tm_on : ∀ p : Fin 24, ∀ t : Fin 5, 1 ≤ t.val → t.val < tm p → powP p t ≠ idP := by decide +kernel
theorem powP_one : ∀ p : Fin 24, powP p 1 = p := by decide +kernel

theorem times_c {w : World} {A : Around} {s : Shared} {k : Nat} (S : Sta w s.heap) (rm : Rm A (k + 2)) {p : Fin 24} {t : Tok} : Cl w A (.ref 72) [.bytes (PB p).toArray t] (isI (tm p : Nat)) s := fun E => by
  refine wpAny_call ?_
  refine' enterF S rm (f := 72) (binds := [(Str.ofString "order", .bytes (PB p).toArray t)]) ?ho ?hcd ?hb ?hl ?_ ?hc ?h1 ?h2 ?h3
  case ho => with_unfolding_all rfl
  case hcd => kernel_rfl
  case hb => exact BindsTo.of_eq rfl
  case hl => exact rfl
  case hc => decide
  case h1 => exact rfl
  case h2 => exact rfl
  case h3 => exact rfl
  intro h₁ tk F rm'
  have S₁ : Sta w h₁ := S.keeps F.keep
  have hpos := tm_pos p
  refine wpAny_execs_cons (asg2 rm'.hh (Ev.use (ref := h₁) (ev_local (v := .bytes (PB p).toArray t) (by rfl)) (fr_self F) fun v s₂ hv k₂ => ?_))
  obtain rfl := hv
  obtain ⟨h₂, t₂, rfl, k₂⟩ := k₂
  have F := F.keptAll k₂
  refine Ev.use (ref := h₂) (m := fun y => List.lookup y [(Str.ofString "order", Value.bytes (PB p).toArray t)].reverse) ev_int (fr_self F) fun v s₃ hv k₃ => ?_
  obtain ⟨u₃, rfl⟩ := hv
  obtain ⟨h₃, t₃, rfl, k₃⟩ := k₃
  have F := F.keptAll k₃
  intro h₄ k₄
  have F := F.keptAll k₄
  refine storeX_L F News.nil fun h₅ F₅ _ => storeX_L F₅ News.nil fun h₆ F₆ _ => ?_
  dsimp only
  refine wpAny_execs_cons (wpAny_While (codeAny_whileLoop (fun n s' => ∃ h tk m t' u', ∃ x : Nat, s' = { s with heap := h, toks := tk } ∧ Fr s.heap s.heap.objs.size h m ∧ m (Str.ofString "order") = some (.bytes (PB p).toArray t) ∧ m (Str.ofString "here") = some (.bytes (PB (powP p x)).toArray t') ∧ m (Str.ofString "times") = some (.int (x : Int) u') ∧ 1 ≤ x ∧ x ≤ tm p ∧ n = tm p - x) ?_ (tm p - 1)
    ⟨h₆, _, _, t, u₃, 1, rfl, F₆, by rfl, by rw [powP_one]; rfl, by rfl, Nat.le_refl _, hpos.1, rfl⟩))
  rintro n _ ⟨h, tk, m, t', u', x, rfl, F, hmo, hmh, hmt, hx1, hxt, rfl⟩
  have S₇ : Sta w h := S.keeps F.keep
  refine Tr.use (ref := h) (b := (!decide (powP p x = idP)) && (decide ((x : Int) < 20) && true)) (tr_boolop (tra_and_cons (tr_cmp (R₁ := eqv (.bytes (PB (powP p x)).toArray t')) (R₂ := isP idP) (ev_local hmh) (ev_idP S₇ rm'.hh (ev_boot S₇ (by kernel_rfl) (by rfl)) (ev_boot S₇ (by kernel_rfl) (by rfl))) fun a b s' E' F' ha hb => ?_)
    fun _ => tra_and_cons (tr_cmp (R₁ := eqv (.int x u')) (ev_local hmt) ev_int fun a b s' E' F' ha hb => ?_) fun _ => tra_and_nil)) (fr_self F) fun s' kk => ?_
  · obtain rfl := ha
    obtain ⟨_, rfl⟩ := hb
    exact ne_P ⟨rfl, krefl _⟩
  · obtain rfl := ha
    obtain ⟨_, rfl⟩ := hb
    exact PyProof.Rows.lt_int ⟨rfl, krefl _⟩
  obtain ⟨h₇, t₇, rfl, k₇⟩ := kk
  have F := F.keptAll k₇
  have S₈ := S₇.keeps k₇
  by_cases hlt : x < tm p
  · have hne := tm_on p ⟨x, by omega⟩ hx1 hlt
    rw [decide_eq_false hne, decide_eq_true (by omega : (x : Int) < 20)]
    rw [if_pos (show (!false && (true && true)) = true from rfl)]
    refine wpAny_execs_cons (asg2 rm'.hh (Ev.use (ref := h₇) (R := isP (powP p (x + 1))) (ev_call2 (f := .ref 44) (R₁ := eqv (.bytes (PB (powP p x)).toArray t')) (R₂ := eqv (.bytes (PB p).toArray t)) S₈ (.inr (.inr (by kernel_rfl))) (ev_glob S₈ (by with_unfolding_all rfl)) (ev_local hmh) (ev_local hmo) fun a b s' F' ha hb => ?_) (fr_self F) fun v s₂ hv k₂ => ?_))
    · obtain rfl := ha
      obtain rfl := hb
      exact then_c (S₈.keeps F'.keep) rm'
    obtain ⟨u₈, rfl⟩ := hv
    obtain ⟨h₈, t₈, rfl, k₈⟩ := k₂
    have F := F.keptAll k₈
    refine Ev.use (ref := h₈) (R := isI ((x + 1 : Nat) : Int)) (ev_bin (R₁ := eqv (.int x u')) (ev_local hmt) ev_int fun a b s' E' F' ha hb => ?_) (fr_self F) fun v s₄ hv k₄ => ?_
    · obtain rfl := ha
      obtain ⟨_, rfl⟩ := hb
      exact add_int ⟨⟨s'.toks, by rw [Int.natCast_add]; rfl⟩, kof (Sub.refl _)⟩
    obtain ⟨u₉, rfl⟩ := hv
    obtain ⟨h₉, t₉, rfl, k₉⟩ := k₄
    have F := F.keptAll k₉
    intro h₁₀ k₁₀
    have F := F.keptAll k₁₀
    refine storeX_L F News.nil fun h₁₁ F₁₁ _ => storeX_L F₁₁ News.nil fun h₁₂ F₁₂ _ => wpAny_execs_nil ?_
    have hmo' : ∀ u v, upd (upd m (Str.ofString "times") u) (Str.ofString "here") v (Str.ofString "order") = some (.bytes (PB p).toArray t) := fun u v => upd_ne (by decide) (upd_ne (by decide) hmo)
    exact ⟨tm p - (x + 1), by omega, h₁₂, _, _, u₈, u₉, x + 1, rfl, F₁₂, hmo' _ _, upd_at, upd_ne (by decide) upd_at, by omega, hlt, rfl⟩
  · obtain rfl : x = tm p := by omega
    rw [decide_eq_true (tm_end p)]
    rw [if_neg (by simp)]
    refine wpAny_execs_nil ?_
    refine wpAny_execs_cons (wpAny_Return_some (Ev.use (ref := h₇) (ev_local hmt) (fr_self F) fun v s' hv kk => ?_))
    obtain rfl := hv
    exact ⟨⟨_, rfl⟩, ktrans (kof F.keep) kk⟩
end Mine
end

section
open PySem PySem.W PyProof.Rows PySem.Calls
set_option maxRecDepth 100000
set_option linter.unusedVariables false
set_option maxHeartbeats 400000
namespace Mine

theorem fr_ext {h₀ h h' : Heap} {L b : Addr} {m : Str → Option Value} (F : Fr h₀ L h m) (hb : b ≠ L) (hn : h₀.get? b = none) (x : Heap.ExtBut b h h') : Fr h₀ L h' m :=
  ⟨F.ns.extBut x (Ne.symm hb), fun c o e => x c o (by rintro rfl; rw [hn] at e; cases e) (F.keep c o e), F.above⟩
theorem none_of_sub {h h' : Heap} {a : Addr} (k : Sub h h') (e : h'.get? a = none) : h.get? a = none := by
  cases x : h.get? a with
  | none => rfl
  | some o => rw [k a o x] at e; cases e
theorem ne_of_get {h : Heap} {a b : Addr} {o : Obj} (e : h.get? a = some o) (e' : h.get? b = none) : a ≠ b := by
  rintro rfl; rw [e] at e'; cases e'

section
variable {w : World} {A : Around} {env : Env} {ref h₀ : Heap} {m : Str → Option Value} {R R₁ R₂ R₃ R₄ : VP} {E : Value → Shared → Prop} {s : Shared} {news : List (Addr × Obj)}

theorem storeL {name : Str} {scope : Scope} {L a : Addr} {cd v : Value} {cl : List (Str × Addr)} {x : Str} {Q : Unit → Shared → Prop} (F : Fr h₀ L s.heap m)
    (h : ∀ h' tk, Fr h₀ L h' (upd m x v) → Heap.ExtBut L s.heap h' → Q () { s with heap := h', toks := tk })
    (hk : scope.kind = .function := by rfl) (hx : (envX name scope L a cd cl).kindOf x = some .local := by rfl) :
    wpAny (model PySem.Challenge.rw_ho0001_01.row.prog w) A (storeName (envX name scope L a cd cl) x v) Q E s :=
  wpAny_storeName_local hx F.ns (fun h' hn hs => h h' _ (F.set hn hs) hs.extBut) (by show (scope.kind == .class || (scope.kind == .module && L != mainGlobals)) = false; rw [hk]; rfl)
theorem asgX {name : Str} {scope : Scope} {L a : Addr} {cd : Value} {cl : List (Str × Addr)} {x : Str} {e : Expr} {p p' : Pos} {Q : Flow → Shared → Prop} (F : Fr h₀ L s.heap m) (H : Ev w A (envX name scope L a cd cl) s.heap m e R)
    (k : ∀ v h₁ h' tk, R.p v h₁ → Sub s.heap h₁ → Heap.ExtBut L h₁ h' → Fr h₀ L h' (upd m x v) → Q .next { s with heap := h', toks := tk })
    (hk : scope.kind = .function := by rfl) (hx : (envX name scope L a cd cl).kindOf x = some .local := by rfl)
    (hs : swapsWith e (some (.Name x p)) p'.line (envX name scope L a cd cl) = pure false := by rfl) :
    wpAny (model PySem.Challenge.rw_ho0001_01.row.prog w) A (exec (.Assign [.Name x p] e p') (envX name scope L a cd cl)) Q E s := by
  refine wpAny_Assign_Name (H.use ⟨Sub.refl _, F.ns⟩ fun v s₁ hv kk => ?_) hs
  obtain ⟨h₁, t₁, rfl, k₁⟩ := kk
  exact storeL (F.keptAll k₁) (fun h' tk F' x' => k v h₁ h' tk hv k₁ x' F') hk hx

theorem use_call2 {f : Value} {fe e e' : Expr} {pos : Pos} {Q : Value → Shared → Prop} (S : Sta w ref) (hf : Cbl w f) (Hf : Ev w A env ref m fe (eqv f)) (H : Ev w A env ref m e R₁) (H' : Ev w A env ref m e' R₂) (F : Fm ref env.locals m s.heap)
    (h : ∀ a b s', Keeps s s' → R₁.p a s'.heap → R₂.p b s'.heap → wpAny (model PySem.Challenge.rw_ho0001_01.row.prog w) A (call f [a, b]) Q E s')
    (hc : eval (.Call fe [e, e'] [] pos) env = (do callWith pos (← eval fe env) [] (backTo pos (starEach [e, e'] env)) (backToKw pos (keywordEach [] env))) := by rfl)
    (he : starEach [e, e'] env = (false, eval e env) :: starEach [e'] env := by rfl) (he' : starEach [e'] env = (false, eval e' env) :: starEach [] env := by rfl)
    (hp : (backTo pos (starEach [e'] env)).any (·.1) = false := by rfl) : wpAny (model PySem.Challenge.rw_ho0001_01.row.prog w) A (eval (.Call fe [e, e'] [] pos) env) Q E s := by
  refine Call_ (Hf.use F fun v s₁ hv k => ?_) hc
  obtain rfl : v = f := hv
  refine cw S hf ?_ he hp
  refine spliced_more (H.use (F.keeps (ksub k)) fun a s₂ ha k₂ => ?_) he
  have F₂ := F.keeps (ksub (ktrans k k₂))
  refine spliced_more (H'.use F₂ fun b s₃ hb k₃ => spliced_none ?_) he'
  have kk := ktrans (ktrans k k₂) k₃
  exact ⟨(F.keeps (ksub kk)).keep, h a b s₃ kk (R₁.st _ _ _ ha (ksub k₃)) hb⟩
theorem use_meth1 {o e : Expr} {name : Str} {apos pos : Pos} {T id : String} {ov : Value} {Q : Value → Shared → Prop} (Ho : Ev w A env ref m o (eqv ov)) (He : Ev w A env ref m e R₁) (F : Fm ref env.locals m s.heap)
    (hT : ∀ s' : Shared, Sub ref s'.heap → s'.TypeIs ov T) (plain : PlainAttrs T) (slot : Slot T name id) (hty : typeOf (.builtin id) = pure (.type "method_descriptor"))
    (hd : ∀ s' : Shared, Sub ref s'.heap → ∀ a, ov = .ref a → ∃ o, s'.heap.get? a = some o ∧ o.dict = none)
    (k : ∀ a s', Keeps s s' → R₁.p a s'.heap → wpAny (model PySem.Challenge.rw_ho0001_01.row.prog w) A (call (.builtin id) [ov, a]) Q E s')
    {pl : Sem Bool}
    (he : eval (.Call (.Attribute o name apos) [e] [] pos) env = (do
      let ov ← eval o env
      standAt apos.atName
      let (f, first) ← holding [ov] (getMethod ov name pl)
      callWith pos f first (backTo pos (starEach [e] env)) []) := by rfl)
    (x₁ : starEach [e] env = (false, eval e env) :: starEach [] env := by rfl) : wpAny (model PySem.Challenge.rw_ho0001_01.row.prog w) A (eval (.Call (.Attribute o name apos) [e] [] pos) env) Q E s := by
  refine meth F Ho hT plain slot hty hd (fun s₁ k₁ F₁ => ?_) he
  refine PyProof.Rows.callWith_method1 (spliced_more (He.use F₁ fun a s₂ ha k₂ => spliced_none ?_) x₁) x₁ rfl
  exact k a s₂ (ktrans k₁ k₂) ha
/-- one more at a list's end -/
theorem use_append {o e : Expr} {apos pos : Pos} {D : Addr} {vs : List Value} {n : Nat} {Q : Value → Shared → Prop} (Ho : Ev w A env ref m o (eqv (.ref D))) (He : Ev w A env ref m e R₁) (F : Fm ref env.locals m s.heap)
    (hD : ref.get? D = some (PySem.W.listOf vs.toArray n)) (hz : vs.length ≤ 1000)
    (k : ∀ a h₁ h' tk, R₁.p a h₁ → Sub s.heap h₁ → Heap.ExtBut D h₁ h' → h'.get? D = some (PySem.W.listOf (vs ++ [a]).toArray (n + 1)) → Q .none { s with heap := h', toks := tk })
    {pl : Sem Bool}
    (he : eval (.Call (.Attribute o (Str.ofString "append") apos) [e] [] pos) env = (do
      let ov ← eval o env
      standAt apos.atName
      let (f, first) ← holding [ov] (getMethod ov (Str.ofString "append") pl)
      callWith pos f first (backTo pos (starEach [e] env)) []) := by rfl)
    (x₁ : starEach [e] env = (false, eval e env) :: starEach [] env := by rfl) : wpAny (model PySem.Challenge.rw_ho0001_01.row.prog w) A (eval (.Call (.Attribute o (Str.ofString "append") apos) [e] [] pos) env) Q E s := by
  refine use_meth1 (T := "list") (id := "list.append") (ov := .ref D) Ho He F (fun s' k => ⟨_, k _ _ hD, rfl⟩) PySem.F.plainAttrs_list PySem.slot_list_append (by first | exact PySem.F.type_list_append | rfl) (fun s' k a e => by cases e; exact ⟨_, k _ _ hD, rfl⟩) (fun a s' kk ha => ?_) he x₁
  have hD' := (F.keeps (ksub kk)).keep _ _ hD
  refine append_at hD' (fun h' hs hD₂ => ?_) (by rw [List.size_toArray, sizeLine_eq]; omega)
  obtain ⟨h₁, t₁, rfl, k₁⟩ := kk
  exact k a h₁ h' t₁ ha k₁ hs.extBut (by rw [hD₂]; simp [PySem.W.listOf])
/-- a list of one -/
theorem ev_list1 {e : Expr} {pos : Pos} (H : Ev w A env ref m e R) (x₁ : starEach [e] env = (false, eval e env) :: starEach [] env := by rfl) : Ev w A env ref m (.List [e] pos) (isL ref fun ys => ∃ a h, ys = [a] ∧ R.p a h) := fun s E F => by
  refine PyProof.Rows.List_ (spliced_more (H.use F fun a s₁ ha k => spliced_none ?_) x₁)
  refine wpAny_newList ?_
  refine ⟨⟨_, [a], 0, rfl, none_of_sub (F.keeps (ksub k)).keep (new_none _), Heap.get?_push_size _ rfl, a, s₁.heap, rfl, ha⟩, ktrans k (kof fun b o e => Heap.get?_push_of_some _ e)⟩
theorem ev_list2 {e e' : Expr} {pos : Pos} (H : Ev w A env ref m e R₁) (H' : Ev w A env ref m e' R₂) (x₁ : starEach [e, e'] env = (false, eval e env) :: starEach [e'] env := by rfl) (x₂ : starEach [e'] env = (false, eval e' env) :: starEach [] env := by rfl) :
    Ev w A env ref m (.List [e, e'] pos) (isL ref fun ys => ∃ a b h, ys = [a, b] ∧ R₁.p a h ∧ R₂.p b h) := fun s E F => by
  refine PyProof.Rows.List_ (spliced_more (H.use F fun a s₁ ha k => spliced_more (H'.use (F.keeps (ksub k)) fun b s₂ hb k₂ => spliced_none ?_) x₂) x₁)
  refine wpAny_newList ?_
  exact ⟨⟨_, [a, b], 0, rfl, none_of_sub (F.keeps (ksub (ktrans k k₂))).keep (new_none _), Heap.get?_push_size _ rfl, a, b, s₂.heap, rfl, R₁.st _ _ _ ha (ksub k₂), hb⟩, ktrans (ktrans k k₂) (kof fun b o e => Heap.get?_push_of_some _ e)⟩
theorem ev_list0 {pos : Pos} : Ev w A env ref m (.List [] pos) (isL ref fun ys => ys = []) := fun s E F => by
  refine PyProof.Rows.List_ (spliced_none ?_)
  refine wpAny_newList ?_
  exact ⟨⟨_, [], 0, rfl, none_of_sub F.keep (new_none _), Heap.get?_push_size _ rfl, rfl⟩, kof fun b o e => Heap.get?_push_of_some _ e⟩
theorem tr_not {e : Expr} {b : Bool} {pos : Pos} (H : Tr w A env ref m e b) : Tr w A env ref m (.UnaryOp .Not e pos) (!b) := fun s E F =>
  wpAny_isTrue_Not (wpAny_mono (H s E F) (fun v s' h => ⟨congrArg (!·) h.1, h.2⟩) fun _ _ x => x)
end
end Mine
end

section
open PySem PySem.W PyProof.Rows PySem.Calls
set_option maxRecDepth 100000
set_option linter.unusedVariables false
set_option maxHeartbeats 1000000
namespace Mine

/-- one order told behind p: into both lists, if new -/
def step1 (p : Fin 24) (st : List (Fin 24) × List (Fin 24)) (q : Fin 24) : List (Fin 24) × List (Fin 24) :=
  if (!decide (mul p q ∈ st.1) && (decide (st.1.length < 30) && true)) = true then (insP st.1 (mul p q), st.2 ++ [mul p q]) else st
def stepG (gs : List (Fin 24)) (p : Fin 24) (st : List (Fin 24) × List (Fin 24)) : List (Fin 24) × List (Fin 24) := gs.foldl (step1 p) st
def runG (gs : List (Fin 24)) : Nat → Nat → List (Fin 24) × List (Fin 24) → List (Fin 24)
  | 0, _, st => st.1
  | f + 1, i, st => match st.2[i]? with
    | none => st.1
    | some p => runG gs f (i + 1) (stepG gs p st)
def made (gs : List (Fin 24)) : List (Fin 24) := runG gs 31 0 ([0], [0])
structure Ok (st : List (Fin 24) × List (Fin 24)) : Prop where
  srt : st.1.Pairwise (· ≤ ·)
  len : st.1.length = st.2.length
  le : st.1.length ≤ 30
theorem Ok.step {st : List (Fin 24) × List (Fin 24)} (H : Ok st) (p q : Fin 24) : Ok (step1 p st q) := by
  unfold step1
  split
  · rename_i h
    simp only [Bool.and_eq_true, decide_eq_true_eq] at h
    refine ⟨insP_sorted H.srt _, ?_, ?_⟩
    · show (insP st.1 _).length = (st.2 ++ [_]).length
      rw [insP_length, List.length_append, H.len]; rfl
    · show (insP st.1 _).length ≤ 30
      rw [insP_length]; omega
  · exact H
theorem step1_le (p : Fin 24) (st : List (Fin 24) × List (Fin 24)) (q : Fin 24) : st.2.length ≤ (step1 p st q).2.length := by
  unfold step1; split
  · show _ ≤ (st.2 ++ [_]).length; simp
  · exact Nat.le_refl _
theorem step1_at (p : Fin 24) (st : List (Fin 24) × List (Fin 24)) (q : Fin 24) : ∃ t, (step1 p st q).2 = st.2 ++ t := by
  unfold step1; split
  · exact ⟨_, rfl⟩
  · exact ⟨[], (List.append_nil _).symm⟩
theorem Ok.fold {gs : List (Fin 24)} {p : Fin 24} : ∀ {st}, Ok st → Ok (stepG gs p st) := by
  induction gs with
  | nil => exact fun h => h
  | cons g r ih => exact fun h => ih (h.step p g)
theorem Ok.run {gs : List (Fin 24)} : ∀ {f i st}, Ok st → (runG gs f i st).Pairwise (· ≤ ·) ∧ (runG gs f i st).length ≤ 30
  | 0, i, st, h => ⟨h.srt, h.le⟩
  | f + 1, i, st, h => by
    unfold runG
    split
    · exact ⟨h.srt, h.le⟩
    · exact Ok.run h.fold
theorem ok0 : Ok ([0], [0]) := ⟨by decide, rfl, by decide⟩
theorem made_ok (gs : List (Fin 24)) : (made gs).Pairwise (· ≤ ·) ∧ (made gs).length ≤ 30 := Ok.run ok0

theorem iter_ext {h h' : Heap} {a l b : Addr} {i : Nat} (x : h.IsListIter a l i) (e : Heap.ExtBut b h h') (n : a ≠ b) : h'.IsListIter a l i := x.at fun o => e a o n

theorem pyiterL {w : World} {A : Around} {E : Value → Shared → Prop} {s : Shared} {M : Addr} {vs : List Value} {n : Nat} {Q : Value → Shared → Prop} (hl : s.heap.get? M = some (PySem.W.listOf vs.toArray n))
    (h : ∀ I h', Sub s.heap h' → s.heap.get? I = none → h'.IsListIter I M 0 → Q (.ref I) { s with heap := h' }) : wpAny (model PySem.Challenge.rw_ho0001_01.row.prog w) A (pyIter (.ref M)) Q E s :=
  wpAny_pyIter_list ⟨_, hl, rfl, n, rfl⟩ (h _ _ (fun b o e => Heap.get?_push_of_some _ e) (new_none _) ⟨_, Heap.get?_push_size _ rfl, rfl, rfl⟩)

/-- the heap of _law_made within the outer loop -/
structure MS (h₀ h : Heap) (L O W I : Addr) (m : Str → Option Value) (mk : Value) (i : Nat) (st : List (Fin 24) × List (Fin 24)) : Prop where
  F : Fr h₀ L h m
  mm : m (Str.ofString "makers") = some mk
  mo : m (Str.ofString "order") = some (.ref O)
  mw : m (Str.ofString "waiting") = some (.ref W)
  o : ∃ vs n, h.get? O = some (PySem.W.listOf vs.toArray n) ∧ PA vs st.1
  w : ∃ vs n, h.get? W = some (PySem.W.listOf vs.toArray n) ∧ PA vs st.2
  it : h.IsListIter I W i
  nO : O ≠ L ∧ h₀.get? O = none
  nW : W ≠ L ∧ h₀.get? W = none
  nI : I ≠ L ∧ h₀.get? I = none
  OW : O ≠ W
  OI : O ≠ I
  WI : W ≠ I
  ok : Ok st
theorem MS.sub {h₀ h h' : Heap} {L O W I : Addr} {m : Str → Option Value} {mk : Value} {i : Nat} {st : List (Fin 24) × List (Fin 24)} (M : MS h₀ h L O W I m mk i st) (k : Sub h h') : MS h₀ h' L O W I m mk i st :=
  { M with F := M.F.keptAll k, o := let ⟨vs, n, a, b⟩ := M.o; ⟨vs, n, k _ _ a, b⟩, w := let ⟨vs, n, a, b⟩ := M.w; ⟨vs, n, k _ _ a, b⟩, it := M.it.at (k _) }
theorem MS.loc {h₀ h h' : Heap} {L O W I : Addr} {m m' : Str → Option Value} {mk : Value} {i : Nat} {st : List (Fin 24) × List (Fin 24)} (M : MS h₀ h L O W I m mk i st) (k : Heap.ExtBut L h h') (F : Fr h₀ L h' m')
    (e : ∀ x, x = Str.ofString "makers" ∨ x = Str.ofString "order" ∨ x = Str.ofString "waiting" → m' x = m x) : MS h₀ h' L O W I m' mk i st :=
  { M with F := F, mm := (e _ (.inl rfl)).trans M.mm, mo := (e _ (.inr (.inl rfl))).trans M.mo, mw := (e _ (.inr (.inr rfl))).trans M.mw,
           o := let ⟨vs, n, a, b⟩ := M.o; ⟨vs, n, k _ _ M.nO.1 a, b⟩, w := let ⟨vs, n, a, b⟩ := M.w; ⟨vs, n, k _ _ M.nW.1 a, b⟩, it := iter_ext M.it k M.nI.1 }
theorem MS.tl {h₀ h : Heap} {L O W I : Addr} {m : Str → Option Value} {mk : Value} {i : Nat} {st : List (Fin 24) × List (Fin 24)} (M : MS h₀ h L O W I m mk i st) : (isO fun vs => PA vs st.1).p (.ref O) h := let ⟨vs, n, a, b⟩ := M.o; ⟨O, vs, n, rfl, a, b⟩
theorem upd3 {m : Str → Option Value} {x : Str} {v : Value} (h1 : (x == Str.ofString "makers") = false) (h2 : (x == Str.ofString "order") = false) (h3 : (x == Str.ofString "waiting") = false) : ∀ y, y = Str.ofString "makers" ∨ y = Str.ofString "order" ∨ y = Str.ofString "waiting" → upd m x v y = m y := by
  intro y hy
  have : y ≠ x := by
    rintro rfl
    rcases hy with rfl | rfl | rfl
    · simp at h1
    · simp at h2
    · simp at h3
  exact if_neg this

theorem MS.ins {h₀ h h' h'' : Heap} {L O W I : Addr} {m : Str → Option Value} {mk : Value} {i : Nat} {st : List (Fin 24) × List (Fin 24)} {r : Fin 24} (M : MS h₀ h L O W I m mk i st) (x : Heap.ExtBut O h h') (y : Heap.ExtBut W h' h'')
    (ho : ∃ vs n, h'.get? O = some (PySem.W.listOf vs.toArray n) ∧ PA vs (insP st.1 r)) (hw : ∃ vs n, h''.get? W = some (PySem.W.listOf vs.toArray n) ∧ PA vs (st.2 ++ [r])) (ok : Ok (insP st.1 r, st.2 ++ [r])) : MS h₀ h'' L O W I m mk i (insP st.1 r, st.2 ++ [r]) :=
  { M with F := fr_ext (fr_ext M.F M.nO.1 M.nO.2 x) M.nW.1 M.nW.2 y, o := let ⟨vs, n, a, b⟩ := ho; ⟨vs, n, y _ _ M.OW a, b⟩, w := hw, it := iter_ext (iter_ext M.it x (Ne.symm M.OI)) y (Ne.symm M.WI), ok := ok }

theorem made_c {w : World} {A : Around} {s : Shared} {k : Nat} (S : Sta w s.heap) (rm : Rm A (k + 4)) {gs : List (Fin 24)} {mk : Value}
    (hm : (isO fun vs => PA vs gs).p mk s.heap) : Cl w A (.ref 58) [mk] (isL s.heap fun vs => PA vs (made gs)) s := fun E => by
  refine wpAny_call ?_
  refine' enterF S rm (f := 58) (binds := [(Str.ofString "makers", mk)]) ?ho ?hcd ?hb ?hl ?_ ?hc ?h1 ?h2 ?h3
  case ho => with_unfolding_all rfl
  case hcd => kernel_rfl
  case hb => exact BindsTo.of_eq rfl
  case hl => exact rfl
  case hc => decide
  case h1 => exact rfl
  case h2 => exact rfl
  case h3 => exact rfl
  intro h₁ tk F rm'
  have S₁ : Sta w h₁ := S.keeps F.keep
  -- order, waiting
  refine wpAny_execs_cons (asg2 rm'.hh (Ev.use (ref := h₁) (ev_list1 (R := isP idP) (ev_idP S₁ rm'.hh (ev_boot S₁ (by kernel_rfl) (by rfl)) (ev_boot S₁ (by kernel_rfl) (by rfl)))) (fr_self F) fun v s₂ hv k₂ => ?_))
  obtain ⟨O, vo, no, rfl, rO, hO, a, ha, rfl, hao⟩ := hv
  obtain ⟨h₂, t₂, rfl, k₂⟩ := k₂
  have F := F.keptAll k₂
  have S₂ := S₁.keeps k₂
  refine Ev.use (ref := h₂) (ev_list1 (R := isP idP) (ev_idP S₂ rm'.hh (ev_boot S₂ (by kernel_rfl) (by rfl)) (ev_boot S₂ (by kernel_rfl) (by rfl)))) (fr_self F) fun v s₃ hv k₃ => ?_
  obtain ⟨W, vw, nw, rfl, rW, hW, b, hb, rfl, hbo⟩ := hv
  obtain ⟨h₃, t₃, rfl, k₃⟩ := k₃
  have OL : O ≠ s.heap.objs.size := Ne.symm (by obtain ⟨oL, _, _, hL, _⟩ := (‹Fr s.heap _ h₁ _›).ns; exact ne_of_get hL rO)
  have WL : W ≠ s.heap.objs.size := Ne.symm (by obtain ⟨oL, _, _, hL, _⟩ := F.ns; exact ne_of_get hL rW)
  have OW : O ≠ W := ne_of_get hO rW
  have F := F.keptAll k₃
  intro h₄ k₄
  have F := F.keptAll k₄
  have hO₄ := k₄ _ _ (k₃ _ _ hO)
  have hW₄ := k₄ _ _ hW
  have nO : s.heap.get? O = none := none_of_sub (‹Fr s.heap _ h₁ _›).keep rO
  have nW : s.heap.get? W = none := none_of_sub (‹Fr s.heap _ h₂ _›).keep rW
  refine storeL F fun h₅ t₅ F₅ x₅ => storeL F₅ fun h₆ t₆ F₆ x₆ => ?_
  dsimp only
  have hO₆ := x₆ _ _ OL (x₅ _ _ OL hO₄)
  have hW₆ := x₆ _ _ WL (x₅ _ _ WL hW₄)
  -- for one in waiting
  refine wpAny_execs_cons (wpAny_For (Ev.use (ref := h₆) (ev_local (v := .ref W) (by rfl)) (fr_self F₆) fun v s₇ hv k₇ => ?_))
  obtain rfl := hv
  obtain ⟨h₇, t₇, rfl, k₇⟩ := k₇
  refine pyiterL (k₇ _ _ hW₆) fun I h₈ e₈ rI it₈ => ?_
  have k₈ : Sub h₆ h₈ := Sub.trans k₇ e₈
  have F₈ := F₆.keptAll k₈
  have rI : h₆.get? I = none := none_of_sub k₇ rI
  have nI : s.heap.get? I = none := none_of_sub F₆.keep rI
  have IL : I ≠ s.heap.objs.size := Ne.symm (by obtain ⟨oL, _, _, hL, _⟩ := F₆.ns; exact ne_of_get hL rI)
  have OI : O ≠ I := ne_of_get hO₆ rI
  have WI : W ≠ I := ne_of_get hW₆ rI
  have M₀ : MS s.heap h₈ s.heap.objs.size O W I _ mk 0 ([0], [0]) := ⟨F₈, by rfl, by rfl, by rfl, ⟨_, _, k₈ _ _ hO₆, .cons hao .nil⟩, ⟨_, _, k₈ _ _ hW₆, .cons hbo .nil⟩, it₈, ⟨OL, nO⟩, ⟨WL, nW⟩, ⟨IL, nI⟩, OW, OI, WI, ok0⟩
  refine codeAny_forLoop (fun n s' => ∃ h tk m i st, s' = { s with heap := h, toks := tk } ∧ MS s.heap h s.heap.objs.size O W I m mk i st ∧ runG gs (31 - i) i st = made gs ∧ i ≤ 30 ∧ n = 31 - i) ?_ 31 ⟨h₈, _, _, 0, _, rfl, M₀, rfl, by omega, rfl⟩
  rintro n _ ⟨h, tk, m, i, st, rfl, M, hrun, hi, rfl⟩
  obtain ⟨vo, no, hO, hPo⟩ := M.o
  obtain ⟨vw, nw, hW, hPw⟩ := M.w
  have hok := M.ok
  cases hv : vw.toArray[i]? with
  | none =>
    refine wpAny_pyNext_list_end rm'.hh M.it ⟨_, hW, rfl, nw, rfl⟩ hv fun h' x => wpAny_execs_nil ?_
    have e : st.2[i]? = none := by
      rw [List.getElem?_toArray, List.getElem?_eq_none_iff, pa_len hPw] at hv
      exact List.getElem?_eq_none_iff.mpr hv
    have hmade : st.1 = made gs := by
      rw [← hrun, show 31 - i = (30 - i) + 1 by omega, runG, e]
    have F' := fr_ext M.F M.nI.1 M.nI.2 x
    refine wpAny_execs_cons (wpAny_Return_some (Ev.use (ref := h') (ev_local M.mo) (fr_self F') fun v s' hv kk => ?_))
    obtain rfl := hv
    exact ⟨⟨O, vo, no, rfl, nO, ksub kk _ _ (x _ _ OI hO), hmade ▸ hPo⟩, ktrans (kof F'.keep) kk⟩
  | some x =>
    rw [List.getElem?_toArray] at hv
    obtain ⟨p, hp, tp, rfl⟩ := pa_get hPw hv
    have hlt : i < st.2.length := by
      by_cases hh : i < st.2.length
      · exact hh
      · rw [List.getElem?_eq_none_iff.mpr (by omega)] at hp; cases hp
    have hle := hok.le
    have hlen := hok.len
    have hrun' : runG gs (30 - i) (i + 1) (stepG gs p st) = made gs := by
      rw [← hrun, show 31 - i = (30 - i) + 1 by omega, runG, hp]
    refine wpAny_pyNext_list_item M.it ⟨_, hW, rfl, nw, rfl⟩ (by rw [List.getElem?_toArray]; exact hv) fun h₉ it₉ s₉ => ?_
    have F₉ := fr_ext M.F IL nI s₉.extBut
    have M₉ : MS s.heap h₉ s.heap.objs.size O W I m mk (i + 1) st := { M with F := F₉, o := ⟨vo, no, s₉.extBut _ _ OI hO, hPo⟩, w := ⟨vw, nw, s₉.extBut _ _ WI hW, hPw⟩, it := it₉ }
    refine wpAny_assign_Name (storeL F₉ fun h₁₀ t₁₀ F₁₀ x₁₀ => ?_)
    have M₁₀ := M₉.loc x₁₀ F₁₀ (upd3 (by decide) (by decide) (by decide))
    obtain ⟨Mk, vm, nm, rfl, hMk, hPm⟩ := hm
    have hmk : ∀ {h' : Heap} {m' : Str → Option Value}, Fr s.heap s.heap.objs.size h' m' → h'.get? Mk = some (PySem.W.listOf vm.toArray nm) := fun F => F.keep _ _ hMk
    have hone₁₀ : upd m (Str.ofString "one") (.bytes (PB p).toArray tp) (Str.ofString "one") = some (.bytes (PB p).toArray tp) := upd_at
    generalize upd m (Str.ofString "one") (.bytes (PB p).toArray tp) = m₁₀ at F₁₀ M₁₀ hone₁₀
    -- for maker in makers
    refine wpAny_execs_cons (wpAny_For (Ev.use (ref := h₁₀) (ev_local (v := .ref Mk) M₁₀.mm) (fr_self F₁₀) fun v s₁₁ hv k₁₁ => ?_))
    obtain rfl := hv
    obtain ⟨h₁₁, t₁₁, rfl, k₁₁⟩ := k₁₁
    have M₁₁ := M₁₀.sub k₁₁
    refine pyiterL (hmk M₁₁.F) fun J h₁₂ k₁₂ rJ it₁₂ => ?_
    have M₁₂ := M₁₁.sub k₁₂
    have nJ : s.heap.get? J = none := none_of_sub M₁₁.F.keep rJ
    have JL : J ≠ s.heap.objs.size := Ne.symm (by obtain ⟨oL, _, _, hL, _⟩ := M₁₁.F.ns; exact ne_of_get hL rJ)
    obtain ⟨_, _, hO₁₁, _⟩ := M₁₁.o
    obtain ⟨_, _, hW₁₁, _⟩ := M₁₁.w
    have OJ : O ≠ J := ne_of_get hO₁₁ rJ
    have WJ : W ≠ J := ne_of_get hW₁₁ rJ
    have IJ : I ≠ J := by obtain ⟨o, ho, _⟩ := M₁₁.it; exact ne_of_get ho rJ
    refine codeAny_forLoop (fun n s' => ∃ h tk m j, s' = { s with heap := h, toks := tk } ∧ MS s.heap h s.heap.objs.size O W I m (.ref Mk) (i + 1) ((gs.take j).foldl (step1 p) st) ∧ m (Str.ofString "one") = some (.bytes (PB p).toArray tp) ∧ h.IsListIter J Mk j ∧ j ≤ gs.length ∧ n = gs.length + 1 - j) ?_ (gs.length + 1)
      ⟨h₁₂, _, _, 0, rfl, M₁₂, hone₁₀, it₁₂, Nat.zero_le _, rfl⟩
    clear M M₉ M₁₀ M₁₁ M₁₂
    rintro n _ ⟨h, tk, m, j, rfl, M, hone, itJ, hj, rfl⟩
    cases hv : vm.toArray[j]? with
    | none =>
      have e : j = gs.length := by
        rw [List.getElem?_toArray, List.getElem?_eq_none_iff, pa_len hPm] at hv
        omega
      subst e
      refine wpAny_pyNext_list_end rm'.hh itJ ⟨_, hmk M.F, rfl, nm, rfl⟩ hv fun h' x => wpAny_execs_nil ?_
      have F' := fr_ext M.F JL nJ x
      refine wpAny_execs_nil ?_
      rw [List.take_length] at M
      have M' : MS s.heap h' s.heap.objs.size O W I m (.ref Mk) (i + 1) (stepG gs p st) := { M with F := F', o := let ⟨vs, n, a, b⟩ := M.o; ⟨vs, n, x _ _ OJ a, b⟩, w := let ⟨vs, n, a, b⟩ := M.w; ⟨vs, n, x _ _ WJ a, b⟩, it := iter_ext M.it x IJ }
      exact ⟨30 - i, by omega, h', _, m, i + 1, _, rfl, M', by rw [show 31 - (i + 1) = 30 - i by omega]; exact hrun', by omega, by omega⟩
    | some x =>
      rw [List.getElem?_toArray] at hv
      obtain ⟨q, hq, tq, rfl⟩ := pa_get hPm hv
      have hjlt : j < gs.length := by
        by_cases hh : j < gs.length
        · exact hh
        · rw [List.getElem?_eq_none_iff.mpr (by omega)] at hq; cases hq
      have hst : (gs.take (j + 1)).foldl (step1 p) st = step1 p ((gs.take j).foldl (step1 p) st) q := by
        rw [List.take_add_one, hq]
        simp
      generalize (gs.take j).foldl (step1 p) st = st₁ at M hst
      refine wpAny_pyNext_list_item itJ ⟨_, hmk M.F, rfl, nm, rfl⟩ (by rw [List.getElem?_toArray]; exact hv) fun h₁₃ it₁₃ s₁₃ => ?_
      have F₁₃ := fr_ext M.F JL nJ s₁₃.extBut
      have M₁₃ : MS s.heap h₁₃ s.heap.objs.size O W I m (.ref Mk) (i + 1) st₁ := { M with F := F₁₃, o := let ⟨vs, n, a, b⟩ := M.o; ⟨vs, n, s₁₃.extBut _ _ OJ a, b⟩, w := let ⟨vs, n, a, b⟩ := M.w; ⟨vs, n, s₁₃.extBut _ _ WJ a, b⟩, it := iter_ext M.it s₁₃.extBut IJ }
      refine wpAny_assign_Name (storeL F₁₃ fun h₁₄ t₁₄ F₁₄ x₁₄ => ?_)
      have M₁₄ := M₁₃.loc x₁₄ F₁₄ (upd3 (by decide) (by decide) (by decide))
      have it₁₄ := iter_ext it₁₃ x₁₄ JL
      have S₁₄ : Sta w h₁₄ := S.keeps F₁₄.keep
      have hone₁₄ : upd m (Str.ofString "maker") (.bytes (PB q).toArray tq) (Str.ofString "one") = some (.bytes (PB p).toArray tp) := upd_ne (by decide) hone
      have hmak₁₄ : upd m (Str.ofString "maker") (.bytes (PB q).toArray tq) (Str.ofString "maker") = some (.bytes (PB q).toArray tq) := upd_at
      generalize upd m (Str.ofString "maker") (.bytes (PB q).toArray tq) = m₁₄ at F₁₄ M₁₄ hone₁₄ hmak₁₄
      -- after
      refine wpAny_execs_cons (asgX F₁₄ (R := isP (mul p q)) (ev_call2 (f := .ref 44) (R₁ := eqv (.bytes (PB p).toArray tp)) (R₂ := eqv (.bytes (PB q).toArray tq)) S₁₄ (.inr (.inr (by kernel_rfl))) (ev_glob S₁₄ (by with_unfolding_all rfl)) (ev_local hone₁₄) (ev_local hmak₁₄) fun a b s' F' ha hb => ?_) fun v h₁₅ h₁₆ t₁₆ hv k₁₅ x₁₆ F₁₆ => ?_)
      · obtain rfl := ha
        obtain rfl := hb
        exact then_c (S₁₄.keeps F'.keep) (rm'.mono (by omega) : Rm _ (k + 1))
      obtain ⟨ta, rfl⟩ := hv
      have M₁₆ := (M₁₄.sub k₁₅).loc x₁₆ F₁₆ (upd3 (by decide) (by decide) (by decide))
      have it₁₆ := iter_ext (it₁₄.at (k₁₅ _)) x₁₆ JL
      have S₁₆ : Sta w h₁₆ := S.keeps F₁₆.keep
      have hone₁₆ : upd m₁₄ (Str.ofString "after") (.bytes (PB (mul p q)).toArray ta) (Str.ofString "one") = some (.bytes (PB p).toArray tp) := upd_ne (by decide) hone₁₄
      have haft₁₆ : upd m₁₄ (Str.ofString "after") (.bytes (PB (mul p q)).toArray ta) (Str.ofString "after") = some (.bytes (PB (mul p q)).toArray ta) := upd_at
      generalize upd m₁₄ (Str.ofString "after") (.bytes (PB (mul p q)).toArray ta) = m₁₆ at F₁₆ M₁₆ hone₁₆ haft₁₆
      have hsz : st₁.1.length ≤ 30 := M₁₆.ok.le
      -- if
      refine wpAny_execs_cons (if_ (ref := h₁₆) (b := !decide (mul p q ∈ st₁.1) && (decide (st₁.1.length < 30) && true)) (fr_self F₁₆) (tr_boolop (tra_and_cons (tr_not (tr_bool (ev_call2 (f := .ref 51) (R₁ := eqv (.ref O)) (R₂ := eqv (.bytes (PB (mul p q)).toArray ta)) S₁₆ (.inr (.inr (by kernel_rfl))) (ev_glob S₁₆ (by with_unfolding_all rfl)) (ev_local M₁₆.mo) (ev_local haft₁₆) fun a b s' F' ha hb => ?_)))
        fun _ => tra_and_cons (tr_cmp (R₁ := isI (st₁.1.length : Nat)) (ev_call1 (R₁ := eqv (.ref O)) S₁₆ (.inr (.inl ⟨_, rfl⟩)) (ev_boot S₁₆ (by kernel_rfl) (by rfl)) (ev_local M₁₆.mo) fun a s' F' ha => ?_) ev_int fun a b s' E' F' ha hb => ?_) fun _ => tra_and_nil)) fun s' kk => ?_)
      · obtain rfl := ha
        obtain rfl := hb
        exact has_c (S₁₆.keeps F'.keep) (rm'.mono (by omega) : Rm _ (k + 2)) ((isO fun vs => PA vs st₁.1).st _ _ _ M₁₆.tl F'.keep) M₁₆.ok.srt (by omega)
      · obtain rfl := ha
        exact cl_len (isO_mono (fun vs h => pa_len h) ((isO fun vs => PA vs st₁.1).st _ _ _ M₁₆.tl F'.keep)) (by omega)
      · obtain ⟨_, rfl⟩ := ha
        obtain ⟨_, rfl⟩ := hb
        exact PyProof.Rows.lt_int ⟨congrArg Value.bool (decide_eq_decide.mpr (by constructor <;> intro h <;> omega)), krefl _⟩
      obtain ⟨h₁₇, t₁₇, rfl, k₁₇⟩ := kk
      have M₁₇ := M₁₆.sub k₁₇
      have it₁₇ := it₁₆.at (k₁₇ _)
      have F₁₇ := M₁₇.F
      unfold step1 at hst
      cases hc : !decide (mul p q ∈ st₁.1) && (decide (st₁.1.length < 30) && true) with
      | false =>
        rw [hc, if_neg Bool.false_ne_true] at hst
        refine wpAny_execs_nil (wpAny_execs_nil ?_)
        exact ⟨gs.length - j, by omega, h₁₇, _, m₁₆, j + 1, rfl, hst ▸ M₁₇, hone₁₆, it₁₇, hjlt, by omega⟩
      | true =>
        have hok' := (M₁₆.ok).step p q
        unfold step1 at hok'
        rw [hc, if_pos rfl] at hst hok'
        have S₁₇ : Sta w h₁₇ := S.keeps F₁₇.keep
        obtain ⟨vo, no, hO, hPo⟩ := M₁₇.o
        obtain ⟨vw, nw, hW, hPw⟩ := M₁₇.w
        refine wpAny_execs_cons (wpAny_Expr_any (use_call2 (f := .ref 30) (ref := h₁₇) (R₁ := eqv (.ref O)) (R₂ := eqv (.bytes (PB (mul p q)).toArray ta)) S₁₇ (.inr (.inr (by kernel_rfl))) (ev_glob S₁₇ (by with_unfolding_all rfl)) (ev_local M₁₇.mo) (ev_local haft₁₆) (fr_self F₁₇) fun a b s' kk ha hb => ?_))
        obtain rfl := ha
        obtain rfl := hb
        obtain ⟨h₁₈, t₁₈, rfl, k₁₈⟩ := kk
        have M₁₈ := M₁₇.sub k₁₈
        refine insort_c (S₁₇.keeps k₁₈) (rm'.mono (by omega) : Rm _ (k + 2)) (k₁₈ _ _ hO) hPo M₁₇.ok.srt (by omega) fun h₁₉ t₁₉ vo' no' x₁₉ hO₁₉ hPo₁₉ => ?_
        have F₁₉ := fr_ext M₁₈.F OL nO x₁₉
        have hW₁₉ := x₁₉ _ _ (Ne.symm OW) (k₁₈ _ _ hW)
        have lw := pa_len hPw
        have := M₁₇.ok.len
        refine wpAny_execs_cons (wpAny_Expr_any (use_append (ref := h₁₉) (D := W) (R₁ := eqv (.bytes (PB (mul p q)).toArray ta)) (ev_local M₁₇.mw) (ev_local haft₁₆) (fr_self F₁₉) hW₁₉ (by omega) fun a h₂₀ h₂₁ t₂₁ ha k₂₀ x₂₁ hW₂₁ => ?_))
        obtain rfl := ha
        refine wpAny_execs_nil (wpAny_execs_nil ?_)
        have x₂₀ : Heap.ExtBut O h₁₈ h₂₀ := fun b o hb e => k₂₀ b o (x₁₉ b o hb e)
        have M₂₁ := M₁₈.ins x₂₀ x₂₁ ⟨_, _, k₂₀ _ _ hO₁₉, hPo₁₉⟩ ⟨_, _, hW₂₁, pa_append hPw (.cons ⟨_, rfl⟩ .nil)⟩ hok'
        exact ⟨gs.length - j, by omega, h₂₁, _, m₁₆, j + 1, rfl, hst ▸ M₂₁, hone₁₆, iter_ext (iter_ext (it₁₇.at (k₁₈ _)) x₂₀ (Ne.symm OJ)) x₂₁ (Ne.symm WJ), hjlt, by omega⟩
end Mine
end

section
open PySem PySem.W PyProof.Rows PySem.Calls
set_option maxRecDepth 100000
set_option linter.unusedVariables false
set_option maxHeartbeats 1000000
namespace Mine

section
variable {w : World} {A : Around} {env : Env} {ref h₀ : Heap} {m : Str → Option Value} {R R₁ R₂ R₃ R₄ : VP} {E : Value → Shared → Prop} {s : Shared} {news : List (Addr × Obj)}
/-- list(range(n)) -/
theorem cl_list_range {n : Nat} {v : Value} (hh : A.handled = none) (h : (isRg n).p v s.heap) (hz : n ≤ 1000) (k : Sub ref s.heap) :
    Cl w A (.type "list") [v] (isL ref fun vs => IA vs ((List.range n).map fun (i : Nat) => (i : Int))) s := fun E => by
  obtain ⟨r, t, u, x, rfl, hr⟩ := h
  have e : Builtin.Range.rangeSize 0 (0 + (n : Int)) 1 = (n : Int) := by rw [rangeSize_one]; split <;> omega
  refine call_list_range hh hr (small_one (by omega) (by omega) (by omega) (by omega)) e (by omega) fun h' tk acc c hk hg hi => ?_
  refine ⟨⟨_, acc.toList, c, rfl, none_of_sub k (new_none _), by simpa [PySem.W.listOf] using hg, ?_⟩, kof hk⟩
  obtain ⟨h1, h2⟩ := hi
  refine pa_of (by simpa using h1) fun i a b ha hb => ?_
  obtain ⟨t, rfl⟩ := h2 i a (by simpa using ha)
  obtain ⟨j, hj, rfl⟩ := List.mem_map.mp (List.mem_of_getElem? hb)
  simp only [List.getElem?_map] at hb
  obtain ⟨j', hj', e'⟩ := Option.map_eq_some_iff.mp hb
  have : j' = i := by
    have hi' : i < n := by
      by_cases q : i < n
      · exact q
      · rw [List.getElem?_eq_none (by simpa using q)] at hj'; cases hj'
    rw [List.getElem?_range hi'] at hj'
    cases hj'; rfl
  subst this
  rw [← e']
  exact ⟨t, by simp⟩
/-- a list, so many times -/
theorem mul_L {P : List Value → Prop} {a b : Value} {k : Nat} (ha : (isO fun vs => vs.length = 1 ∧ P vs).p a s.heap) (hb : ∃ t, b = .int (k : Int) t) (hk : k ≤ 1000) (kk : Sub ref s.heap) :
    wpAny (model PySem.Challenge.rw_ho0001_01.row.prog w) A (binaryOp .Mult a b) (fun v s' => (isL ref fun ys => ∃ x, P [x] ∧ ys = List.replicate k x).p v s'.heap ∧ Keeps s s') E s := by
  obtain ⟨l, vs, n, rfl, hl, h1, hP⟩ := ha
  obtain ⟨u, rfl⟩ := hb
  obtain ⟨x, rfl⟩ : ∃ x, vs = [x] := by
    match vs, h1 with
    | [x], _ => exact ⟨x, rfl⟩
  obtain ⟨X, hX⟩ : ∃ X : Int, X = (k : Int) := ⟨_, rfl⟩
  rw [← hX]
  have e1 : X.toNat = k := by rw [hX, Int.toNat_natCast]
  have c0 : ¬(!Builtin.List.listFitsIndex X) = true := by
    simp only [Builtin.List.listFitsIndex, Bool.not_eq_true', Bool.not_eq_false, Bool.and_eq_true, decide_eq_true_eq]
    omega
  have c1 : ¬ (#[x] : Array Value).size * X.toNat > (2 ^ 63 - 1) / 8 := by rw [e1]; show ¬ 1 * k > _; omega
  have c2 : ¬ Builtin.List.listTooLong ((#[x] : Array Value).size * X.toNat) = true := by
    rw [e1]
    show ¬ Builtin.List.listTooLong (1 * k) = true
    simp only [Builtin.List.listTooLong, decide_eq_true_eq, sizeLine_eq]
    omega
  have e3 : ∀ (k : Nat) (acc : Array Value), List.foldl (fun x1 x2 => x1 ++ x2) acc (List.replicate k #[x]) = acc ++ (List.replicate k x).toArray := by
    intro k
    induction k with
    | zero => intro acc; simp
    | succ k ih => intro acc; rw [List.replicate_succ, List.foldl_cons, ih, List.replicate_succ]; apply Array.toList_inj.mp; simp
  have e4 : List.foldl (fun x1 x2 => x1 ++ x2) #[] (List.replicate (if (#[x] : Array Value).isEmpty = true then 0 else X.toNat) #[x]) = (List.replicate k x).toArray := by
    rw [show (#[x] : Array Value).isEmpty = false from rfl, if_neg Bool.false_ne_true, e1, e3]
    simp
  have g1 := int___rmul___int_list X u l #[x] n
  have g2 := AutoListH.list___mul___list_int_3 l #[x] n X u c0 c1 c2
  rw [e4] at g2
  refine wpAny_binaryOp_repeat_ref (T := "list") (U := "int") (by decide) ⟨_, hl, rfl⟩ (fun s' => typeIs_int s' _ u) noFill_list_mul PySem.F.fills_int_mul PySem.F.slot_int_rmul repeat_list PySem.F.slot_int_index.lookup ?_
  refine call_meets PySem.F.slot_int_rmul (typeIs_int s _ u) PySem.F.entry_int_rmul (PySem.F.args_int_rmul_2 _ _) g1 ⟨hl, rfl, ⟨_, hl, rfl⟩, ?_⟩
  refine call_meets PySem.F.slot_list_mul ⟨_, hl, rfl⟩ PySem.F.entry_list_mul (PySem.F.args_list_mul_2 _ _) g2 ⟨hl, ?_⟩
  exact ⟨⟨_, List.replicate k x, 0, rfl, none_of_sub kk (new_none _), Heap.get?_push_size _ rfl, x, hP, rfl⟩, kof fun b o e => Heap.get?_push_of_some _ e⟩
/-- two lists in a row -/
theorem add_L {P P' : List Value → Prop} {a b : Value} (ha : (isO P).p a s.heap) (hb : (isO P').p b s.heap) (hz : ∀ vs, P vs → vs.length ≤ 1000) (hz' : ∀ vs, P' vs → vs.length ≤ 1000) (kk : Sub ref s.heap) :
    wpAny (model PySem.Challenge.rw_ho0001_01.row.prog w) A (binaryOp .Add a b) (fun v s' => (isL ref fun ys => ∃ x y, P x ∧ P' y ∧ ys = x ++ y).p v s'.heap ∧ Keeps s s') E s := by
  obtain ⟨l, vs, n, rfl, hl, hP⟩ := ha
  obtain ⟨l', vs', n', rfl, hl', hP'⟩ := hb
  have z1 := hz _ hP
  have z2 := hz' _ hP'
  refine concat_meets ⟨_, hl, rfl⟩ ⟨_, hl', rfl⟩ noFill_list_add seq_list_add PySem.F.slot_list_add PySem.F.entry_list_add (PySem.F.args_list_add_2 _ _) (list_addW l l' vs.toArray vs'.toArray n n' _ _ _ _ (by simp only [List.size_toArray, sizeLine_eq]; omega)) ⟨hl, hl', ?_⟩
  refine ⟨⟨_, vs ++ vs', 0, rfl, none_of_sub kk (new_none _), ?_, vs, vs', hP, hP', rfl⟩, kof fun b o e => Heap.get?_push_of_some _ e⟩
  rw [Heap.get?_push_size _ rfl]
  simp [PySem.W.listOf]
/-- a slice's part -/
def EvO (w : World) (A : Around) (env : Env) (ref : Heap) (m : Str → Option Value) (e : Option Expr) (i : Option Int) : Prop := match e, i with
  | none, none => True
  | some e, some i => Ev w A env ref m e (isI i)
  | _, _ => False
theorem EvO.use {e : Option Expr} {i : Option Int} {Q : Value → Shared → Prop} (H : EvO w A env ref m e i) (F : Fm ref env.locals m s.heap) (k : ∀ v s', IsPart v i → Keeps s s' → Q v s') :
    wpAny (model PySem.Challenge.rw_ho0001_01.row.prog w) A (evalPart e env) Q E s := by
  match e, i, H with
  | none, none, _ => rw [evalPart_none]; exact wpAny_pure (k _ _ .none (krefl _))
  | some e, some i, H => rw [evalPart_some]; exact Ev.use H F fun v s' hv kk => by obtain ⟨t, rfl⟩ := hv; exact k _ _ (.int i t) kk
/-- a slice of a list -/
theorem ev_slice (sw : Bool) {e : Expr} {lo hi st : Option Expr} {i j q : Option Int} {p p' : Pos} {P : List Value → Prop} (H : Ev w A env ref m e (isO P)) (H₁ : EvO w A env ref m lo i) (H₂ : EvO w A env ref m hi j) (H₃ : EvO w A env ref m st q) (hz : ∀ vs, P vs → vs.length ≤ 1000) (hq : q ≠ some 0)
    (hs : ∀ (o x : Value), subscripted (.Slice lo hi st p) false o x = operate (if sw then [x, o] else [o, x]) (getItem o x) := by intro _ _; with_unfolding_all rfl) :
    Ev w A env ref m (.Subscript e (.Slice lo hi st p) p') (isL ref fun ys => ∃ vs, P vs ∧ ys = (slicePick vs.toArray i j q).toList) := fun s E F => by
  refine Subscript_ (H.use F fun a s₁ ha k₁ => ?_)
  refine wpAny_Slice (H₁.use (F.keeps (ksub k₁)) fun vl s₂ hl k₂ => H₂.use (F.keeps (ksub (ktrans k₁ k₂))) fun vu s₃ hu k₃ => H₃.use (F.keeps (ksub (ktrans k₁ (ktrans k₂ k₃)))) fun vs s₄ hv k₄ => ?_)
  have kk := ktrans k₁ (ktrans k₂ (ktrans k₃ k₄))
  obtain ⟨l, its, n, rfl, hits, hP⟩ := (isO P).st _ _ _ ha (ksub (ktrans k₂ (ktrans k₃ k₄)))
  have z := hz _ hP
  obtain ⟨H, hH⟩ : ∃ H, H = s₄.heap.push { cls := .type "slice", data := .fields #[vl, vu, vs] } := ⟨_, rfl⟩
  have kH : Sub s₄.heap H := by subst hH; exact fun b o e => Heap.get?_push_of_some _ e
  have hS : H.IsSliceOf s₄.heap.objs.size vl vu vs := by subst hH; exact Heap.IsSliceOf.new ..
  rw [← hH]
  refine tail_any (s := { s₄ with heap := H }) ⟨_, kH _ _ hits, rfl⟩ slot_list_getitem.lookup (wpAny_getItem_list_slice (s := { s₄ with heap := H }) (items := its.toArray) ⟨_, kH _ _ hits, rfl, n, rfl⟩ hS hl hu hv hq ?_ (by rw [List.size_toArray, sizeLine_eq]; omega)) (hs _ _)
  refine ⟨⟨_, (slicePick its.toArray i j q).toList, 0, rfl, none_of_sub (F.keeps (ksub kk)).keep (none_of_sub kH (new_none H)), ?_, its, hP, rfl⟩, ktrans kk (kof fun b o e => Heap.get?_push_of_some _ (kH _ _ e))⟩
  exact Heap.get?_push_size _ rfl
/-- the first ones of a list -/
theorem ev_upto {e : Expr} {p p' p'' : Pos} {P : List Value → Prop} {k n : Nat} (H : Ev w A env ref m e (isO P)) (hz : ∀ vs, P vs → vs.length ≤ 1000) :
    Ev w A env ref m (.Subscript e (.Slice none (some (.Constant (.int (n : Int)) k p)) none p') p'') (isL ref fun ys => ∃ vs, P vs ∧ ys = vs.take n) := by
  refine Ev.mono (ev_slice true (i := none) (j := some (n : Int)) (q := none) H trivial ev_int trivial hz (by simp)) ?_
  rintro v h ⟨a, ys, c, rfl, q, g, vs, hP, rfl⟩
  exact ⟨a, _, c, rfl, q, g, vs, hP, by rw [slicePick_upto']⟩
/-- one is taken out -/
theorem pop_at {D : Addr} {l : List Value} {n k : Nat} {u : Tok} {y : Value} {Q : Value → Shared → Prop} (ho : s.heap.get? D = some (PySem.W.listOf l.toArray n)) (hy : l[k]? = some y) (hz : l.length ≤ 1000)
    (h : ∀ h' n', Heap.ExtBut D s.heap h' → h'.get? D = some (PySem.W.listOf (l.eraseIdx k).toArray n') → Q y { s with heap := h' }) :
    wpAny (model PySem.Challenge.rw_ho0001_01.row.prog w) A (call (.builtin "list.pop") [.ref D, .int (k : Int) u]) Q E s := by
  have hk : k < l.length := by
    by_cases q : k < l.length
    · exact q
    · rw [List.getElem?_eq_none (by omega)] at hy; cases hy
  have e := PySem.IsL.update (h := s.heap) (l := D) (items := l.toArray) (n := n) ho (fun xs => xs.eraseIdxIfInBounds k)
  have e2 : l.toArray.eraseIdxIfInBounds k = (l.eraseIdx k).toArray := by simp
  rw [e2] at e
  obtain ⟨X, hX⟩ : ∃ X : Int, X = (k : Int) := ⟨_, rfl⟩
  rw [← hX]
  have e1 : X.toNat = k := by rw [hX, Int.toNat_natCast]
  have c0 : Builtin.List.listFitsIndex X = true := by
    simp only [Builtin.List.listFitsIndex, Bool.and_eq_true, decide_eq_true_eq]
    omega
  have c1 : seqIndex? X l.toArray.size = some k := by
    unfold seqIndex?
    rw [List.size_toArray]
    rw [hX]
    simp
    omega
  have g := PySem.MeetsSeq.list_pop_at D l.toArray n X u k y c0 c1 (by simpa using hy) (by rw [List.size_toArray, sizeLine_eq]; omega)
  exact call_meets PySem.F.slot_list_pop ⟨_, ho, rfl⟩ PySem.F.entry_list_pop (PySem.F.args_list_pop_2 _ _) g ⟨ho, h _ _ (Heap.SameBut.update ..).extBut e⟩
end
end Mine
end

section
open PySem PySem.W PyProof.Rows PySem.Calls
set_option maxRecDepth 100000
set_option linter.unusedVariables false
set_option maxHeartbeats 1000000
namespace Mine

theorem four_P : ∀ a b c d : Fin 4, [a, b, c, d].Nodup → ∃ p : Fin 24, PB p = [a.val.toUInt8, b.val.toUInt8, c.val.toUInt8, d.val.toUInt8] := by decide +kernel
theorem perm_P {ms : List Int} (h : ms.Perm [0, 1, 2, 3]) : ∃ p, byteArr ms = (PB p).toArray := by
  have hl : ms.length = 4 := h.length_eq
  have hn : ms.Nodup := h.nodup_iff.mpr (by decide)
  have hm : ∀ x ∈ ms, ∃ a : Fin 4, x = (a.val : Int) := fun x hx => by
    have : x ∈ [0, 1, 2, 3] := h.mem_iff.mp hx
    simp only [List.mem_cons, List.not_mem_nil, or_false] at this
    rcases this with rfl | rfl | rfl | rfl
    · exact ⟨0, rfl⟩
    · exact ⟨1, rfl⟩
    · exact ⟨2, rfl⟩
    · exact ⟨3, rfl⟩
  match ms, hl with
  | [a, b, c, d], _ =>
    obtain ⟨a', rfl⟩ := hm a (by simp)
    obtain ⟨b', rfl⟩ := hm b (by simp)
    obtain ⟨c', rfl⟩ := hm c (by simp)
    obtain ⟨d', rfl⟩ := hm d (by simp)
    obtain ⟨p, hp⟩ := four_P a' b' c' d' (by
      simp only [List.nodup_cons, List.mem_cons, List.not_mem_nil, or_false, not_or, not_false_eq_true, List.nodup_nil, and_true, ← Fin.val_inj] at hn ⊢
      omega)
    refine ⟨p, ?_⟩
    rw [hp]
    simp [byteArr]

theorem pa_erase {α β : Type} {F : α → β → Prop} {l₁ : List α} {l₂ : List β} (h : Paired F l₁ l₂) : ∀ r, Paired F (l₁.eraseIdx r) (l₂.eraseIdx r) := by
  induction h with
  | nil => intro r; simp; exact .nil
  | cons h1 h2 ih => intro r; cases r with
    | zero => exact h2
    | succ r => exact .cons h1 (ih r)
theorem erase_perm {α : Type} : ∀ (l : List α) (r : Nat) (h : r < l.length), ([l[r]] ++ l.eraseIdx r).Perm l
  | x :: l, 0, _ => List.Perm.refl _
  | x :: l, r + 1, h => by
    have := erase_perm l r (by simpa using h)
    exact (List.Perm.swap x _ _).trans (this.cons x)
theorem drawn_c {w : World} {A : Around} {s : Shared} {k : Nat} (S : Sta w s.heap) (rm : Rm A (k + 1)) {l : Value}
    (hl : (isO fun vs => vs.length ≤ 100 ∧ ∃ ns, IA vs ns).p l s.heap) : Cl w A (.ref 65) [l] (pure' fun v => ∃ p, vP v p) s := fun E => by
  refine wpAny_call ?_
  refine' enterF S rm (f := 65) (binds := [(Str.ofString "numbers", l)]) ?ho ?hcd ?hb ?hl ?_ ?hc ?h1 ?h2 ?h3
  case ho => with_unfolding_all rfl
  case hcd => kernel_rfl
  case hb => exact BindsTo.of_eq rfl
  case hl => exact rfl
  case hc => decide
  case h1 => exact rfl
  case h2 => exact rfl
  case h3 => exact rfl
  intro h₁ tk F rm'
  have S₁ : Sta w h₁ := S.keeps F.keep
  -- left, found
  refine wpAny_execs_cons (asg2 rm'.hh (Ev.use (ref := h₁) (R := isL h₁ fun vs => IA vs ((List.range 4).map fun (i : Nat) => (i : Int))) (ev_call1 (f := .type "list") (R₁ := isRg 4) S₁ (.inl ⟨_, rfl⟩) (ev_boot S₁ (by kernel_rfl) (by rfl)) (ev_range (n := 4) S₁ (ev_boot S₁ (by kernel_rfl) (by rfl))) fun a s' F' ha => cl_list_range rm'.hh ha (by decide) F'.keep) (fr_self F) fun v s₂ hv k₂ => ?_))
  obtain ⟨D, vl, nl, rfl, rD, hD, hPl⟩ := hv
  obtain ⟨h₂, t₂, rfl, k₂⟩ := k₂
  have F₁ := F
  have F := F.keptAll k₂
  have S₂ := S₁.keeps k₂
  refine Ev.use (ref := h₂) ev_list0 (fr_self F) fun v s₃ hv k₃ => ?_
  obtain ⟨G, vg, ng, rfl, rG, hG, rfl⟩ := hv
  obtain ⟨h₃, t₃, rfl, k₃⟩ := k₃
  have DL : D ≠ s.heap.objs.size := Ne.symm (by obtain ⟨oL, _, _, hL, _⟩ := F₁.ns; exact ne_of_get hL rD)
  have GL : G ≠ s.heap.objs.size := Ne.symm (by obtain ⟨oL, _, _, hL, _⟩ := F.ns; exact ne_of_get hL rG)
  have DG : D ≠ G := ne_of_get hD rG
  have nD : s.heap.get? D = none := none_of_sub F₁.keep rD
  have nG : s.heap.get? G = none := none_of_sub F.keep rG
  have F := F.keptAll k₃
  intro h₄ k₄
  have F := F.keptAll k₄
  have hD₄ := k₄ _ _ (k₃ _ _ hD)
  have hG₄ := k₄ _ _ hG
  refine storeL F fun h₅ t₅ F₅ x₅ => storeL F₅ fun h₆ t₆ F₆ x₆ => ?_
  dsimp only
  have hD₆ := x₆ _ _ DL (x₅ _ _ DL hD₄)
  have hG₆ := x₆ _ _ GL (x₅ _ _ GL hG₄)
  -- for number in ..
  refine wpAny_execs_cons (wpAny_For (Ev.use (ref := h₆) (R := isL h₆ fun ys => ys.length = 4 ∧ ∃ ns, IA ys ns) (Ev.mono (ev_upto (n := 4) (P := fun vs => 4 ≤ vs.length ∧ vs.length ≤ 200 ∧ ∃ ns, IA vs ns) (Ev.mono (R₁ := isL h₆ fun ys => ∃ x y, (x.length ≤ 100 ∧ ∃ ns, IA x ns) ∧ (y.length = 4 ∧ ∃ ns, IA y ns) ∧ ys = x ++ y)
    (ev_bin (R₁ := eqv l) (R₂ := isL h₆ fun ys => ys.length = 4 ∧ ∃ ns, IA ys ns) (ev_local (by rfl)) (Ev.mono (ev_bin (R₁ := isL h₆ fun ys => ∃ a h, ys = [a] ∧ (isI 0).p a h) (R₂ := isI ((4 : Nat) : Int)) (ev_list1 ev_int) ev_int fun a b s' E' F' ha hb => mul_L (P := fun vs => ∃ x, vs = [x] ∧ vI x 0) (isO_mono (fun vs h => ?_) (isO_of ha)) hb (by decide) F'.keep) ?_) fun a b s' E' F' ha hb => ?_) ?_) ?_) ?_) (fr_self F₆) fun v s₇ hv k₇ => ?_))
  · obtain ⟨a, h, rfl, ha⟩ := h
    exact ⟨rfl, a, rfl, ha⟩
  · rintro v h ⟨a, vs, n, rfl, q, g, x, ⟨x', e, hx⟩, rfl⟩
    cases e
    obtain ⟨t, rfl⟩ := hx
    exact ⟨a, _, n, rfl, q, g, by simp, [0, 0, 0, 0], .cons ⟨_, rfl⟩ (.cons ⟨_, rfl⟩ (.cons ⟨_, rfl⟩ (.cons ⟨_, rfl⟩ .nil)))⟩
  · obtain rfl := ha
    refine add_L ((isO _).st _ _ _ hl fun b o e => F'.keep b o (F₆.keep b o e)) (isO_of hb) (fun vs h => by have := h.1; omega) (fun vs h => by have := h.1; omega) F'.keep
  · rintro v h ⟨a, vs, n, rfl, q, g, x, y, ⟨hx, ns, hi⟩, ⟨hy, ns', hi'⟩, rfl⟩
    exact ⟨a, _, n, rfl, g, by simp; omega, by simp; omega, ns ++ ns', pa_append hi hi'⟩
  · intro vs h; have := h.2.1; omega
  · rintro v h ⟨a, vs, n, rfl, q, g, vs', ⟨h1, h2, ns, hi⟩, rfl⟩
    exact ⟨a, _, n, rfl, q, g, by simp; omega, ns.take 4, pa_take hi 4⟩
  obtain ⟨Z, vz, nz, rfl, rZ, hZ, lz, nsz, hPz⟩ := hv
  obtain ⟨h₇, t₇, rfl, k₇⟩ := k₇
  have DZ : D ≠ Z := ne_of_get hD₆ rZ
  have GZ : G ≠ Z := ne_of_get hG₆ rZ
  have ZL : Z ≠ s.heap.objs.size := Ne.symm (by obtain ⟨oL, _, _, hL, _⟩ := F₆.ns; exact ne_of_get hL rZ)
  have F₇ := F₆.keptAll k₇
  refine pyiterL hZ fun I h₈ k₈ rI it₈ => ?_
  have F₈ := F₇.keptAll k₈
  have nI : s.heap.get? I = none := none_of_sub F₇.keep rI
  have IL : I ≠ s.heap.objs.size := Ne.symm (by obtain ⟨oL, _, _, hL, _⟩ := F₇.ns; exact ne_of_get hL rI)
  have DI : D ≠ I := ne_of_get (k₇ _ _ hD₆) rI
  have GI : G ≠ I := ne_of_get (k₇ _ _ hG₆) rI
  have ZI : Z ≠ I := ne_of_get hZ rI
  refine codeAny_forLoop (fun n s' => ∃ h tk m i, ∃ ls gs : List Int, ∃ vl nl vg ng, s' = { s with heap := h, toks := tk } ∧ Fr s.heap s.heap.objs.size h m ∧ m (Str.ofString "left") = some (.ref D) ∧ m (Str.ofString "found") = some (.ref G) ∧
    h.get? D = some (PySem.W.listOf vl.toArray nl) ∧ IA vl ls ∧ h.get? G = some (PySem.W.listOf vg.toArray ng) ∧ IA vg gs ∧ h.get? Z = some (PySem.W.listOf vz.toArray nz) ∧ h.IsListIter I Z i ∧ (gs ++ ls).Perm [0, 1, 2, 3] ∧ gs.length = i ∧ i ≤ 4 ∧ n = 5 - i) ?_ 5
    ⟨h₈, _, _, 0, _, [], vl, nl, [], ng, rfl, F₈, by rfl, by rfl, k₈ _ _ (k₇ _ _ hD₆), hPl, k₈ _ _ (k₇ _ _ hG₆), .nil, k₈ _ _ hZ, it₈, List.Perm.refl _, rfl, by decide, rfl⟩
  rintro n _ ⟨h, tk, m, i, ls, gs, vl, nl, vg, ng, rfl, F, hml, hmf, hD, hPl, hG, hPg, hZ, it, hperm, rfl, hi, rfl⟩
  have hlen := hperm.length_eq
  simp only [List.length_append, List.length_cons, List.length_nil] at hlen
  cases hv : vz.toArray[gs.length]? with
  | none =>
    rw [List.getElem?_toArray, List.getElem?_eq_none_iff] at hv
    refine wpAny_pyNext_list_end rm'.hh it ⟨_, hZ, rfl, nz, rfl⟩ (by rw [List.getElem?_toArray, List.getElem?_eq_none_iff]; exact hv) fun h' x => wpAny_execs_nil ?_
    have F' := fr_ext F IL nI x
    have S' : Sta w h' := S.keeps F'.keep
    have hG' := x _ _ GI hG
    have e : ls = [] := List.eq_nil_of_length_eq_zero (by omega)
    subst e
    rw [List.append_nil] at hperm
    refine wpAny_execs_cons (wpAny_Return_some (Ev.use (ref := h') (R := pure' fun v => ∃ t, v = .bytes (byteArr gs) t) (ev_call1 (f := .type "bytes") (R₁ := eqv (.ref G)) S' (.inl ⟨_, rfl⟩) (ev_boot S' (by kernel_rfl) (by rfl)) (ev_local hmf) fun a s' F'' ha => ?_) (fr_self F') fun v s' hv kk => ?_))
    · obtain rfl := ha
      refine cl_bytes rm'.hh (isO_at (F''.keep _ _ hG') hPg) (fun n hn => ?_) (by omega)
      have : n ∈ [0, 1, 2, 3] := hperm.mem_iff.mp hn
      simp only [List.mem_cons, List.not_mem_nil, or_false] at this
      omega
    · obtain ⟨t, rfl⟩ := hv
      obtain ⟨p, hp⟩ := perm_P hperm
      exact ⟨⟨p, t, by rw [hp]⟩, ktrans (kof F'.keep) kk⟩
  | some x =>
    rw [List.getElem?_toArray] at hv
    obtain ⟨z, hz, tz, rfl⟩ := pa_get hPz hv
    have hlt : gs.length < 4 := by
      by_cases q : gs.length < 4
      · exact q
      · rw [List.getElem?_eq_none (by omega)] at hv; cases hv
    refine wpAny_pyNext_list_item it ⟨_, hZ, rfl, nz, rfl⟩ (by rw [List.getElem?_toArray]; exact hv) fun h₉ it₉ s₉ => ?_
    have F₉ := fr_ext F IL nI s₉.extBut
    refine wpAny_assign_Name (storeL F₉ fun h₁₀ t₁₀ F₁₀ x₁₀ => ?_)
    have hD₁₀ := x₁₀ _ _ DL (s₉.extBut _ _ DI hD)
    have hG₁₀ := x₁₀ _ _ GL (s₉.extBut _ _ GI hG)
    have hZ₁₀ := x₁₀ _ _ ZL (s₉.extBut _ _ ZI hZ)
    have it₁₀ := iter_ext it₉ x₁₀ IL
    have S₁₀ : Sta w h₁₀ := S.keeps F₁₀.keep
    have hml₁₀ : upd m (Str.ofString "number") (.int z tz) (Str.ofString "left") = some (.ref D) := upd_ne (by decide) hml
    have hmf₁₀ : upd m (Str.ofString "number") (.int z tz) (Str.ofString "found") = some (.ref G) := upd_ne (by decide) hmf
    have hmn₁₀ : upd m (Str.ofString "number") (.int z tz) (Str.ofString "number") = some (.int z tz) := upd_at
    generalize upd m (Str.ofString "number") (.int z tz) = m₁₀ at F₁₀ hml₁₀ hmf₁₀ hmn₁₀
    -- found.append(left.pop(..))
    refine wpAny_execs_cons (wpAny_Expr_any (meth (ref := h₁₀) (T := "list") (id := "list.append") (ov := .ref G) (fr_self F₁₀) (ev_local hmf₁₀) (fun s' k => ⟨_, k _ _ hG₁₀, rfl⟩) PySem.F.plainAttrs_list PySem.slot_list_append (by first | exact PySem.F.type_list_append | rfl) (fun s' k a e => by cases e; exact ⟨_, k _ _ hG₁₀, rfl⟩) fun s₁₁ k₁₁ F₁₁ => ?_))
    refine PyProof.Rows.callWith_method1 (spliced_more ?_)
    have hll : 0 < ls.length := by omega
    obtain ⟨r, hr⟩ : ∃ r : Nat, (r : Int) = z.fmod (ls.length : Nat) := ⟨(z.fmod (ls.length : Nat)).toNat, Int.toNat_of_nonneg (by rw [Int.fmod_eq_emod_of_nonneg _ (by omega)]; exact Int.emod_nonneg _ (by omega))⟩
    have hrl : r < ls.length := by
      have : (r : Int) < (ls.length : Nat) := by rw [hr, Int.fmod_eq_emod_of_nonneg _ (by omega)]; exact Int.emod_lt_of_pos _ (by omega)
      omega
    refine use_meth1 (ref := h₁₀) (T := "list") (id := "list.pop") (ov := .ref D) (R₁ := isI (r : Int)) (ev_local hml₁₀) (ev_bin (R₁ := eqv (.int z tz)) (R₂ := isI (ls.length : Nat)) (ev_local hmn₁₀) (ev_call1 (R₁ := eqv (.ref D)) S₁₀ (.inr (.inl ⟨_, rfl⟩)) (ev_boot S₁₀ (by kernel_rfl) (by rfl)) (ev_local hml₁₀) fun a s' F' ha => ?_) fun a b s' E' F' ha hb => ?_) F₁₁ (fun s' k => ⟨_, k _ _ hD₁₀, rfl⟩) PySem.F.plainAttrs_list PySem.F.slot_list_pop (by first | exact PySem.F.type_list_pop | rfl) (fun s' k a e => by cases e; exact ⟨_, k _ _ hD₁₀, rfl⟩) fun a s₁₂ k₁₂ ha => ?_
    · obtain rfl := ha
      exact cl_len (isO_at (F'.keep _ _ hD₁₀) (pa_len hPl)) (by omega)
    · obtain rfl := ha
      obtain ⟨_, rfl⟩ := hb
      exact mod_int (by omega) ⟨⟨s'.toks, by rw [hr]⟩, kof (Sub.refl _)⟩
    · obtain ⟨tr, rfl⟩ := ha
      have k := ktrans k₁₁ k₁₂
      obtain ⟨h₁₂, t₁₂, rfl, q₁₂⟩ := k
      obtain ⟨y, hy⟩ : ∃ y, ls[r]? = some y := ⟨_, List.getElem?_eq_getElem hrl⟩
      obtain ⟨vy, hvy, ty, rfl⟩ := pa_get' hPl hy
      have lvl := pa_len hPl
      have lvg := pa_len hPg
      refine pop_at (q₁₂ _ _ hD₁₀) hvy (by omega) fun h₁₃ n₁₃ x₁₃ hD₁₃ => spliced_none ?_
      have hG₁₃ := x₁₃ _ _ (Ne.symm DG) (q₁₂ _ _ hG₁₀)
      refine append_at hG₁₃ (fun h₁₄ s₁₄ hG₁₄ => wpAny_execs_nil ?_) (by rw [List.size_toArray, sizeLine_eq]; omega)
      have F₁₃ := fr_ext (F₁₀.keptAll q₁₂) DL nD x₁₃
      have F₁₄ := fr_ext F₁₃ GL nG s₁₄.extBut
      refine ⟨5 - (gs.length + 1), by omega, h₁₄, _, m₁₀, gs.length + 1, ls.eraseIdx r, gs ++ [y], _, _, vg ++ [.int y ty], ng + 1, rfl, F₁₄, hml₁₀, hmf₁₀, s₁₄.extBut _ _ DG hD₁₃, ?_, by rw [hG₁₄]; simp [PySem.W.listOf], pa_append hPg (.cons ⟨_, rfl⟩ .nil), ?_, ?_, ?_, by simp, by omega, rfl⟩
      · exact pa_erase hPl r
      · exact s₁₄.extBut _ _ (Ne.symm GZ) (x₁₃ _ _ (Ne.symm DZ) (q₁₂ _ _ hZ₁₀))
      · exact iter_ext (iter_ext (it₁₀.at (q₁₂ _)) x₁₃ (Ne.symm DI)) s₁₄.extBut (Ne.symm GI)
      · refine List.Perm.trans ?_ hperm
        rw [List.append_assoc]
        refine List.Perm.append_left gs ?_
        have e1 : ls[r]'hrl = y := by rw [List.getElem?_eq_getElem hrl] at hy; exact Option.some.inj hy
        have := erase_perm ls r hrl
        rw [e1] at this
        exact this
end Mine
end

section
open PySem PySem.W PyProof.Rows PySem.Calls
set_option maxRecDepth 100000
set_option linter.unusedVariables false
set_option maxHeartbeats 1000000
namespace Mine

def codeC (M : Model) (A : Around) (c : Code) (R : Result → Shared → Prop) (s : Shared) : Prop :=
  ∀ Γ p, Γ.code = c → Γ.Below A → Cln Γ → wpCode M Γ R p s

section
variable {α β : Type} {M : Model} {A : Around} {E : Value → Shared → Prop} {s : Shared}
theorem codeC_any {c : Code} {R : Result → Shared → Prop} (h : codeAny M A c R s) : codeC M A c R s := fun Γ p e hΓ _ => h Γ p e hΓ
theorem wpC_seq {m : Sem α} {f : α → Sem β} {Q : β → Shared → Prop} (h : wpAny M A m (fun a s' => wpC M A (f a) Q E s') E s) : wpC M A (m >>= f) Q E s := wpC_bind (wpC_any h)
theorem wpC_then {m : Sem α} {f : α → Sem β} {Q : β → Shared → Prop} (h : wpC M A m (fun a s' => wpAny M A (f a) Q E s') E s) : wpC M A (m >>= f) Q E s := wpC_bind (wpC_mono h (fun _ _ x => wpC_any x) fun _ _ x => x)
theorem wpC_pure {a : α} {Q : α → Shared → Prop} (h : Q a s) : wpC M A (pure a) Q E s := wpC_any (wpAny_pure h)
theorem wpC_of_eq {t : Sem α} {a : α} {Q : α → Shared → Prop} (e : t = pure a) (h : Q a s) : wpC M A t Q E s := wpC_any (wpAny_of_eq e h)
theorem wpC_standAt {pos : Pos} {f : Unit → Sem β} {Q : β → Shared → Prop} (h : wpC M A (f ()) Q E s) : wpC M A (standAt pos >>= f) Q E s := wpC_seq (wpAny_standAt h)
theorem wpC_holding {vs : List Value} {m : Sem α} {Q : α → Shared → Prop} (h : wpC M A m Q E s) : wpC M A (holding vs m) Q E s := fun Γ p hΓ hc => by rw [Sem.wp_holding]; exact h Γ p hΓ hc
theorem wpC_keep {vs : List Value} {m : Sem α} {Q : α → Shared → Prop} (h : wpC M A m Q E s) : wpC M A (m.keep vs) Q E s := fun Γ p hΓ hc => by rw [Sem.wp_keep]; exact h Γ p hΓ hc
theorem wpC_attempt {m : Sem α} {Q : Except Value α → Shared → Prop} (h : wpC M A m (fun a => Q (.ok a)) (fun e => Q (.error e)) s) : wpC M A m.attempt Q E s := fun Γ p hΓ hc => by rw [Sem.wp_attempt]; exact h Γ p hΓ hc
theorem wpC_onRaise {m : Sem α} {k : Value → Sem Unit} {Q : α → Shared → Prop} (h : wpC M A m Q (fun e s' => wpC M A (k e) (fun _ s'' => E e s'') E s') s) : wpC M A (m.onRaise k) Q E s := fun Γ p hΓ hc => by
  rw [Sem.wp_onRaise]
  exact Sem.wp_mono M Γ m (fun _ _ _ h' => h') (fun e p' s' h' => h' Γ p' hΓ hc) p s (h Γ p hΓ hc)
theorem wpC_false {c : Bool} {a b : Sem α} {Q : α → Shared → Prop} (hc : c = false) (h : wpC M A b Q E s) : wpC M A (if c = true then a else b) Q E s := by subst hc; exact h
theorem wpC_true {c : Bool} {a b : Sem α} {Q : α → Shared → Prop} (hc : c = true) (h : wpC M A a Q E s) : wpC M A (if c = true then a else b) Q E s := by subst hc; exact h

theorem Cln.enter {Γ : PySem.Ctx} (h : Cln Γ) {c : Code} {hd : Option Value} {p : Pos} (hc : clean c = true) : Cln (Γ.enter c hd p) := by
  refine ⟨hc, fun x hx => ?_⟩
  rcases List.mem_cons.mp hx with rfl | hx
  · exact h.1
  · exact h.2 x hx
theorem wpC_runValue {c : Code} {Q : Value → Shared → Prop} (hcl : clean c = true)
    (hc : codeC M A c (fun r s' => match r with | .ok (.ret v) => Q v s' | .ok _ => False | .error e => E e s') s) : wpC M A (runValue c) Q E s := fun Γ p hΓ hC => by
  rw [Sem.wp_runValue]; exact hc _ p rfl (hΓ.enter c none p (by intro x; cases x)) (hC.enter hcl)
theorem wpC_run {c : Code} {h : Option Value} {Q : Flow → Shared → Prop} (hcl : clean c = true)
    (hc : codeC M (A.mark h) c (fun r s' => match r with | .ok f => Q f s' | .error e => E e s') s) (hnb : h ≠ some byPass := by intro x; cases x) : wpC M A (run c h) Q E s := fun Γ p hΓ hC => by
  rw [Sem.wp_run]; exact hc _ p rfl (hΓ.enter c h p hnb) (hC.enter hcl)
theorem wpC_call {f : Value} {pos : List Value} {kw : List (Str × Value)} {Q : Value → Shared → Prop}
    (hc : codeC M A (.call f ⟨pos, kw⟩) (fun r s' => match r with | .ok (.ret v) => Q v s' | .ok _ => False | .error e => E e s') s) : wpC M A (call f pos kw) Q E s := wpC_runValue rfl hc
theorem codeC_mono {c : Code} {R R' : Result → Shared → Prop} (h : codeC M A c R s) (hR : ∀ r s, R r s → R' r s) : codeC M A c R' s := fun Γ p hc hΓ hC => wpCode_mono hR (h Γ p hc hΓ hC)
theorem codeC_of_tree {c : Code} {R : Result → Shared → Prop}
    (h : wpC M (A.under c) (M.den c) (fun fin s' => match fin with | .done f => R (.ok f) s' | .again c' => c'.quiet = true ∧ clean c' = true ∧ codeC M A c' R s') (fun e s' => R (.error e) s') s) : codeC M A c R s := fun Γ p hc hΓ hC => by
  rw [wpCode_iff_wp, hc]
  refine Sem.wp_mono M Γ _ (fun fin p' s' h' => ?_) (fun _ _ _ h' => h') p s (h Γ p (hc ▸ hΓ.in) hC)
  cases fin with
  | done f => exact h'
  | again c' => exact ⟨h'.1, h'.2.2 (Γ.goto c') p' rfl (hΓ.goto c') ⟨h'.2.1, hC.2⟩⟩
end

section
variable {w : World} {A : Around} {E : Value → Shared → Prop} {s : Shared} {prog : Program} {env : Env}
theorem codeC_builtin {R : Result → Shared → Prop} {id : String} {args : Args} {b : Builtin} (hb : entryFor table id = some b)
    (h : wpC (model prog w) (A.under (.builtin id args)) (b args)
      (fun fin s' => match fin with | .done f => R (.ok f) s' | .again c' => c'.quiet = true ∧ clean c' = true ∧ codeC (model prog w) A c' R s') (fun e s' => R (.error e) s') s) :
    codeC (model prog w) A (.builtin id args) R s := by
  refine codeC_of_tree ?_
  show wpC _ _ (match entryFor table id with | some b => b args | none => unsupported ((withoutEnding? id "#data").getD id)) _ _ s
  rw [hb]; exact h
theorem codeC_func {body : List Stmt} {R : Result → Shared → Prop}
    (h : wpC (model prog w) (A.deeper env) (execs body env) (fun f s' => R (.ok (.ret (match f with | .ret v => v | _ => .none))) s') (fun _ _ => False) s) : codeC (model prog w) A (.func body env) R s := by
  refine codeC_of_tree ?_
  show wpC _ (A.deeper env) (do point; match ← (execs body env).onRaise (leaving env) with | .ret v => ret v | _ => ret .none) _ _ s
  refine wpC_seq (wpAny_point (wpC_bind (wpC_onRaise (wpC_mono h (fun f s' h' => ?_) fun _ _ h' => h'.elim))))
  cases f <;> exact wpC_pure h'
theorem codeC_fun {R : Result → Shared → Prop} {a : Addr} {args : Args} {o : Obj} {fd : FuncData} {body : List Stmt} (hroom : A.depth < recursionLimit) (ho : s.heap.get? a = some o)
    (hd' : o.data = .func fd) (hco : fd.scope.isCoroutine = false) (hgen : fd.scope.isGenerator = false) (hbody : fd.body = .stmts body) (hcd : s.heap.CodeRec fd.code fd.qualname)
    (h : wpAny (model prog w) A.in1 (bindArgs fd args) (fun binds s₁ =>
      wpAny (model prog w) A.in1 (newFunctionEnv fd.scope fd.globals fd.closure binds (fd.qualname ++ ".<locals>.") (some a) fd.code none fd.builtins)
        (fun env s₂ => s₂.heap.NoLimit ∧ codeC (model prog w) A (.func body env) R s₂) (fun e s' => R (.error e) s') s₁) (fun e s' => R (.error e) s') s) :
    codeC (model prog w) A (.call (.ref a) args) R s := by
  refine codeC_of_tree (wpC_any ?_)
  show wpAny _ A.in1 (callAny (.ref a) args) _ _ s
  simp only [callAny]
  refine wpAny_bind (wpAny_load ho ?_)
  obtain ⟨c, oc, vs, tq, hc, hoc, hdc, hq⟩ := hcd
  simp only [hd', callFunction, hco, hgen, hbody, hc]
  rw [hc] at h
  refine wpAny_bind (m := field (.ref c) 1) (wpAny_field hoc hdc hq (wpAny_bind (wpAny_pure ?_)))
  refine wpAny_bind (wpAny_mono h (fun binds s₁ h₁ => wpAny_bind (wpAny_mono h₁ (fun env s₂ h₂ => wpAny_bind (wpAny_enterFrame h₂.1 hroom ?_)) fun _ _ h' => h')) fun _ _ h' => h')
  exact wpAny_pure ⟨rfl, rfl, h₂.2⟩

theorem wpC_execs_cons {st : Stmt} {rest : List Stmt} {Q : Flow → Shared → Prop} {M : Model}
    (h : wpC M A (exec st env) (fun f s' => match f with | .next => wpC M A (execs rest env) Q E s' | f => Q f s') E s) : wpC M A (execs (st :: rest) env) Q E s := fun Γ p hΓ hC => by
  rw [execs_cons, Sem.wp_bind']
  refine Sem.wp_mono M Γ _ (fun f p' s' h' => ?_) (fun _ _ _ h' => h') _ _ (h Γ p hΓ hC)
  cases f <;> first | exact h' Γ p' hΓ hC | exact h'
theorem wpC_If {test : Expr} {body orelse : List Stmt} {pos : Pos} {Q : Flow → Shared → Prop} {M : Model}
    (h : wpC M A (isTrue test env (eval test env)) (fun b s₂ => if b then wpC M A (execs body env) Q E s₂ else wpC M A (execs orelse env) Q E s₂) E s) : wpC M A (exec (.If test body orelse pos) env) Q E s := fun Γ p hΓ hC => by
  simp only [exec_If, Sem.wp_bind', Sem.wp_cmd_standAt]
  refine Sem.wp_mono M Γ _ (fun b p₂ s₂ h₂ => ?_) (fun _ _ _ h' => h') _ _ (h Γ _ hΓ hC)
  cases b <;> exact h₂ Γ p₂ hΓ hC
theorem wpC_Assign_Name {x : Str} {pos' pos : Pos} {value : Expr} {Q : Flow → Shared → Prop} {M : Model}
    (h : wpC M A (eval value env) (fun v s₁ => wpAny M A (storeName env x v) (fun _ => Q .next) E s₁) E s)
    (hs : swapsWith value (some (.Name x pos')) pos.line env = pure false := by rfl) : wpC M A (exec (.Assign [.Name x pos'] value pos) env) Q E s := fun Γ p hΓ hC => by
  simp only [exec_Assign_Name env x pos' value pos hs, Sem.wp_bind', Sem.wp_cmd_standAt, Sem.wp_bindName, Sem.wp_pure']
  exact Sem.wp_mono M Γ _ (fun v _ s₁ h₁ => h₁ Γ _ hΓ) (fun _ _ _ h' => h') _ _ (h Γ _ hΓ hC)
theorem wpC_isTrue_BoolOp {op : BoolOp} {values : List Expr} {pos : Pos} {whole : Sem Value} {Q : Bool → Shared → Prop} {M : Model} (h : wpC M A (allTrue op values env) Q E s) :
    wpC M A (isTrue (.BoolOp op values pos) env whole) Q E s := by rw [arm_isTrue_BoolOp]; exact h
theorem wpC_or {x : Expr} {rest : List Expr} {Q : Bool → Shared → Prop} {M : Model}
    (h : wpC M A (isTrue x env (eval x env)) (fun b s₁ => if b then Q true s₁ else wpC M A (allTrue .Or rest env) Q E s₁) E s) : wpC M A (allTrue .Or (x :: rest) env) Q E s := by
  show wpC M A (do match BoolOp.Or, ← isTrue x env (eval x env) with | .And, false => pure false | .Or, true => pure true | _, _ => allTrue .Or rest env) Q E s
  refine wpC_bind (wpC_mono h (fun b s₁ h₁ => ?_) fun _ _ x => x)
  cases b
  · exact h₁
  · exact wpC_pure h₁
theorem wpC_isTrue_cmp {l r : Expr} {op : CmpOp} {pos : Pos} {whole : Sem Value} {Q : Bool → Shared → Prop} {M : Model}
    (h : wpC M A (eval l env) (fun a s₁ => wpAny M A (eval r env) (fun b s₂ => wpAny M A (compareOp op a b) (fun c s₃ => wpAny M A (truthy c) Q E s₃) E s₂) E s₁) E s)
    (hm : behindInMarks op r = false := by rfl) : wpC M A (isTrue (.Compare l [op] [r] pos) env whole) Q E s := fun Γ p hΓ hC => by
  simp only [isTrue_Compare1, markedBehindIn_of_false hm, Sem.wp_bind', Sem.wp_holding, Sem.wp_cmd_standAt, Sem.wp_operate]
  exact Sem.wp_mono M Γ _ (fun a p₁ s₁ h₁ => Sem.wp_mono M Γ _ (fun b _ s₂ h₂ => Sem.wp_mono M Γ _ (fun c p₃ s₃ h₃ => h₃ Γ p₃ hΓ)
    (fun _ _ _ h' => h') _ _ (h₂ Γ _ hΓ)) (fun _ _ _ h' => h') _ _ (h₁ Γ p₁ hΓ)) (fun _ _ _ h' => h') _ _ (h Γ p hΓ hC)
/-- a call -/
def Kp (M : Model) (f : Value) (h : Heap) : Prop := ∃ k, (k = Keeper.frame ∨ k = Keeper.machine ∨ k = Keeper.boundFrame) ∧ Looks M h (keeperOf f) k
theorem wpC_spliced1 {e : Expr} {pos : Pos} {Q : List Value → Shared → Prop} {M : Model} (h : wpC M A (eval e env) (fun v s₁ => Q [v] s₁) E s) (he : starEach [e] env = (false, eval e env) :: starEach [] env := by rfl) :
    wpC M A (spliced (backTo pos (starEach [e] env))) Q E s := by
  rw [he]
  show wpC M A (spliced ((false, eval e env) :: backTo pos (starEach [] env))) Q E s
  rw [spliced]
  refine wpC_bind (wpC_mono h (fun v s₁ h₁ => ?_) fun _ _ x => x)
  simp only [Bool.false_eq_true, if_false]
  exact wpC_bind (wpC_pure (wpC_bind (wpC_holding (wpC_pure (wpC_pure h₁)))))
theorem wpC_callWith {f : Value} {e : Expr} {rest : List Expr} {pos : Pos} {Q : Value → Shared → Prop} {M : Model}
    (h : wpC M A (spliced (backTo pos (starEach (e :: rest) env))) (fun vs s₁ => Kp M f s₁.heap ∧ wpC M A (call f vs) Q E s₁) E s)
    (he : starEach (e :: rest) env = (false, eval e env) :: starEach rest env := by rfl) (hp : (backTo pos (starEach rest env)).any (·.1) = false := by rfl) :
    wpC M A (callWith pos f [] (backTo pos (starEach (e :: rest) env)) []) Q E s := by
  have hplain : ((backTo pos (starEach (e :: rest) env)).any (·.1) || ([] : List (Option Str × Sem Value)).any (·.1.isNone)) = false := by
    rw [he]
    show ((false || (backTo pos (starEach rest env)).any (·.1)) || false) = false
    rw [hp]; rfl
  have hlate : wpC M A (evalArgs f true (backTo pos (starEach (e :: rest) env)) []) (fun a s₁ => Kp M f s₁.heap ∧ wpC M A (call f a.pos a.kw) Q E s₁) E s := by
    rw [he] at h ⊢
    unfold evalArgs
    show wpC M A (spliced ((false, eval e env) :: backTo pos (starEach rest env)) >>= _) _ E s
    refine wpC_bind (wpC_mono h (fun vs s' h' => ?_) fun _ _ x => x)
    refine wpC_holding ?_
    exact wpC_bind (wpC_pure (wpC_bind (wpC_pure (wpC_pure h'))))
  unfold callWith
  refine wpC_bind (wpC_holding (wpC_mono hlate (fun a s₁ h₁ => wpC_standAt ?_) fun _ _ x => x))
  obtain ⟨⟨k, hk', L⟩, h₁⟩ := h₁
  simp only [hplain]
  refine wpC_seq (L.here ?_)
  have tail : ∀ {t : Sem Value}, wpC M A t Q E s₁ → wpC M A (t >>= fun r => holding [r] point >>= fun _ => pure r) Q E s₁ :=
    fun ht => wpC_bind (wpC_mono ht (fun r s₂ hr => wpC_any (wpAny_bind (wpAny_holding (wpAny_point (wpAny_pure hr))))) fun _ _ x => x)
  have marked (mk : Value) : wpC M A (callMarked mk f ([] ++ a.pos) a.kw) Q E s₁ := by unfold callMarked; exact wpC_keep h₁
  rcases hk' with rfl | rfl | rfl <;> dsimp only <;> first | exact tail h₁ | (split <;> first | exact tail h₁ | exact tail (marked _))
theorem kp_K {w : World} {f : Value} {h : Heap} {M : Model} (hk : keepIn (hd.heap_39 w.params) f = true) (X : (hd.heap_39 w.params).In h) : Kp M f h := by
  obtain ⟨k, a, b⟩ := looks_keep (M := M) hk X
  exact ⟨k, a.elim .inl (fun e => .inr (.inl e)), b⟩
theorem kp_type {T : String} {h : Heap} {M : Model} : Kp M (.type T) h := ⟨.machine, .inr (.inl rfl), Looks.of_pure rfl⟩
end
end Mine
end

section
open PySem PySem.W PyProof.Rows PySem.Calls
set_option maxRecDepth 100000
set_option linter.unusedVariables false

namespace Mine
theorem ba_mro : mroOf (.type "bytearray") = pure [.type "bytearray", .type "object"] := by rw [mroOf_type]; kernel_rfl
theorem ba_new : typeLookup (.type "bytearray") "__new__" = pure (some (.builtin "bytearray.__new__")) := by rw [typeLookup_type, builtinLookup_eq_fast]; kernel_rfl
theorem ba_made : Bind.madeBy (.type "bytearray") = pure (some "bytearray.__new__") := madeBy_type ba_mro ba_new (by decide +kernel)
theorem ba_entry_new : entryFor table "bytearray.__new__" = some Builtin.«list.__new__» := entryFor_alias (id' := "list.__new__") (by kernel_rfl) (by decide +kernel) (by decide +kernel) (by kernel_rfl)
theorem ba_entry_init : entryFor table "bytearray.__init__" = some Builtin.«bytearray.__init__» := by first | exact entryFor_of_fast (by kernel_rfl) | exact entryFor_of_tree (by kernel_rfl)
theorem ba_slot_init : Slot "bytearray" "__init__" "bytearray.__init__" :=
  .of (owner := "bytearray") (n := "__init__") (by rw [typeLookup_type, builtinLookup_eq_fast]; kernel_rfl) (by decide +kernel) (by decide +kernel) (by decide +kernel)
    (by first | exact .inl (by decide +kernel) | exact .inr (by decide +kernel)) (by rw [isSubtype_type]; kernel_rfl)
theorem ba_typeCall (a : Value) : checkTypeCall "bytearray" ⟨[a], []⟩ = pure () := by kernel_rfl
theorem ba_newCall (a : Value) : checkBuiltinCall "bytearray.__new__" ⟨[.type "bytearray", a], []⟩ = pure () := by kernel_rfl
theorem ba_called : TypeCalled "bytearray" "bytearray.__new__" "bytearray.__init__" :=
  ⟨by decide +kernel, by decide +kernel, ⟨_, _, ba_mro⟩, ba_made, by decide +kernel, by rw [isSubtype_type]; kernel_rfl, ba_slot_init⟩
set_option maxRecDepth 1000000 in
set_option maxHeartbeats 4000000 in
theorem ba_owner : ("bytearray.__new__".splitOn ".__new__").headD "" = "bytearray" := by simp +decide [String.splitOn, String.splitOnAux]
theorem ba_sub : isSubtype (.type "bytearray") (.type "bytearray") = pure true := by rw [isSubtype_type]; kernel_rfl

theorem ba_args (a b : Value) : argsOk "bytearray.__init__" ⟨[a, b], []⟩ := by unfold argsOk; kernel_rfl
theorem ba_clean (a : Args) : clean (.builtin "bytearray.__init__" a) = true := by kernel_rfl
theorem ba_release : typeLookup (.type "bytearray") "__release_buffer__" = pure (some (.builtin "bytearray.__release_buffer__")) := by rw [typeLookup_type, builtinLookup_eq_fast]; kernel_rfl
theorem ba_bind (v : Value) : Builtin.Bytes.bindOptional "bytearray.__init__" "bytearray" ["source", "encoding", "errors"] [v] [] = pure [some v, none, none] := by kernel_rfl
theorem ba_plain : plainId "bytearray.__new__" = true := by decide +kernel
section
variable {prog : Program} {w : World} {A : Around} {E : Value → Shared → Prop} {s : Shared}
theorem ba_code_new (a : Value) {Q₁ : Value → Shared → Prop}
    (h : Q₁ (.ref s.heap.objs.size) { s with heap := s.heap.push { cls := .type "bytearray", data := .bytearray #[] } }) :
    codeAny (model prog w) A (.call (.builtin "bytearray.__new__") ⟨[.type "bytearray", a], []⟩) (wants Q₁ E) s := by
  refine codeAny_of_tree ?_
  show wpAny _ A.in1 (do checkBuiltinCall "bytearray.__new__" ⟨[.type "bytearray", a], []⟩; again (.builtin "bytearray.__new__" ⟨[.type "bytearray", a], []⟩)) _ _ s
  refine wpAny_bind (wpAny_of_eq (ba_newCall a) (wpAny_pure ⟨plainId_quiet ba_plain _, codeAny_builtin_stack ba_entry_new rfl fun p st => ?_⟩))
  rw [Around.under_plainId ba_plain _]
  have hsub := ba_sub
  have hown := ba_owner
  obtain ⟨hp, g, d, tk, os⟩ := s
  simp only [hown]
  wp_walk
  exact h
end

section
variable {w : World} {prog : Program} {A : Around} {E : Value → Shared → Prop} {s : Shared}
theorem ba_write {a : Addr} {b : Array UInt8} {f : Array UInt8 → Array UInt8} {Q : Unit → Shared → Prop} (ha : s.heap.get? a = some { cls := .type "bytearray", data := .bytearray b }) (hz : (f b).size ≤ 1000)
    (h : ∀ h', Heap.ExtBut a s.heap h' → h'.get? a = some { cls := .type "bytearray", data := .bytearray (f b) } → Q () { s with heap := h' }) : wpAny (model prog w) A (updateBytearray a f) Q E s := by
  unfold updateBytearray
  refine wpAny_bind (wpAny_load ha ?_)
  show wpAny _ _ (update a (Obj.mapBytearray f) >>= fun _ => lookBehind a) _ _ _
  refine wpAny_bind (wpAny_update ha ?_)
  have ha₂ : (s.heap.update a (Obj.mapBytearray f)).get? a = some { cls := .type "bytearray", data := .bytearray (f b) } := Heap.get?_update_self (Obj.mapBytearray f) ha rfl
  refine wpAny_lookBehind ha₂ ?_ (h _ (Heap.SameBut.update ..).extBut ha₂)
  show (if (f b).size > sizeLine then some "bytearray:memory" else none) = none
  rw [if_neg (by rw [sizeLine_eq]; omega)]
theorem ba_no_own {a : Addr} {Q : Bool → Shared → Prop} (hT : s.TypeIs (.ref a) "bytearray") (h : Q false s) : wpAny (model prog w) A (Builtin.Bytes.ownRelease (.ref a)) Q E s := by
  have key : ∀ (x : String) (Q : Bool → Shared → Prop), x = "bytearray" → Q true s → wpAny (model prog w) A (isInstance (.ref a) (.type x)) Q E s := fun x Q hx hq => by
    subst hx; exact wpAny_isInstance hT ba_sub hq
  unfold Builtin.Bytes.ownRelease Builtin.Bytes.slotIsOwn
  refine wpAny_bind (wpAny_bind (wpAny_specialOf hT ba_release ?_))
  refine bm_if_false (by decide +kernel) ?_
  exact key _ _ (by decide +kernel) (wpAny_pure h)
theorem not_exported {a : Addr} {Q : Bool → Shared → Prop} (h : Q false s) : wpC (model prog w) A (Builtin.Bytes.exported (.ref a)) Q E s := fun Γ p hΓ hC => by
  unfold Builtin.Bytes.exported
  show Q (((Γ.code, p) :: Γ.below).any _) s
  rw [List.any_eq_false.mpr]
  · exact h
  · intro x hx hb
    have hcl : clean x.1 = true := by
      rcases List.mem_cons.mp hx with rfl | hx
      · exact hC.1
      · exact hC.2 x hx
    obtain ⟨c, q⟩ := x
    simp only at hcl hb
    unfold clean at hcl
    split at hcl
    · rename_i id args
      rw [Bool.and_eq_true, Bool.not_eq_true', Bool.not_eq_true'] at hcl
      obtain ⟨h1, h2⟩ := hcl
      simp only [List.contains_cons, List.contains_nil, Bool.or_false, Bool.or_eq_false_iff, beq_eq_false_iff_ne, ne_eq] at h1
      split at hb <;> simp_all
    · split at hb <;> simp_all
theorem ba_init {a : Addr} {n : Nat} {t : Tok} {Q : PySem.Fin → Shared → Prop} (ha : s.heap.get? a = some { cls := .type "bytearray", data := .bytearray #[] }) (hn : 0 < n ∧ n ≤ 1000)
    (h : ∀ h', Heap.ExtBut a s.heap h' → h'.get? a = some { cls := .type "bytearray", data := .bytearray (Array.replicate n 0) } → Q (.done (.ret .none)) { s with heap := h' }) :
    wpC (model prog w) A (Builtin.«bytearray.__init__» ⟨[.ref a, .int (n : Int) t], []⟩) Q E s := by
  have hT : s.TypeIs (.ref a) "bytearray" := ⟨_, ha, rfl⟩
  generalize hx : (n : Int) = x
  unfold Builtin.«bytearray.__init__»
  refine wpC_seq (ba_no_own hT ?_)
  refine wpC_false rfl ?_
  refine wpC_bind (wpC_of_eq (ba_bind _) ?_)
  refine wpC_bind (wpC_of_eq (a := ()) rfl ?_)
  refine wpC_bind (wpC_of_eq (a := ()) rfl ?_)
  refine wpC_bind (wpC_bind (not_exported ?_))
  show wpC _ _ (Builtin.Bytes.exportsOf (.ref a) >>= _) _ _ _
  refine wpC_bind (wpC_any ?_)
  show wpAny _ _ (load a >>= _) _ _ _
  refine wpAny_bind (wpAny_load ha ?_)
  refine wpAny_pure (wpC_pure ?_)
  refine wpC_false rfl ?_
  refine wpC_any ?_
  refine wpAny_bind ?_
  show wpAny _ _ (updateBytearray a fun _ => #[]) _ _ _
  refine ba_write ha (by decide) fun h₁ x₁ ha₁ => ?_
  refine wpAny_bind (wpAny_of_eq (a := none) rfl ?_)
  refine bm_if_false rfl ?_
  refine wpAny_bind (wpAny_of_eq (a := ()) rfl ?_)
  refine wpAny_bind (wpAny_specialOf (typeIs_int _ x t) PySem.F.slot_int_index.lookup ?_)
  refine bm_if_true rfl ?_
  refine wpAny_bind (wpAny_attempt (wpAny_of_eq (rfl : asIndex (.int x t) = pure x) ?_))
  dsimp only
  refine bm_if_false (by
    simp only [Builtin.Bytes.fitsIndex, Bool.not_eq_false', Bool.and_eq_true, decide_eq_true_eq]
    omega) ?_
  rw [if_neg (by omega : ¬ x < 0)]
  refine bm_if_false (by simp only [beq_eq_false_iff_ne, ne_eq]; omega) ?_
  refine bm_if_false (by simp only [Builtin.Bytes.tooLong, sizeLine_eq, decide_eq_false_iff_not]; omega) ?_
  refine wpAny_bind (wpAny_rule ?_)
  rw [if_pos (by omega : x > 0)]
  refine wpAny_bind ?_
  show wpAny _ _ (updateBytearray a fun _ => Array.replicate x.toNat 0) _ _ _
  refine ba_write ha₁ (by simp; omega) fun h₂ x₂ ha₂ => ?_
  refine wpAny_pure (h h₂ (x₁.trans x₂) ?_)
  rw [ha₂, ← hx, Int.toNat_natCast]
theorem ba_type_body (v : Value) : ∃ bad : Value → Value → Sem PySem.Fin, Builtin.«type.__call__» ⟨[.type "bytearray", v], []⟩ = (do
    let obj ← holding [.builtin "bytearray.__new__"] (call (.builtin "bytearray.__new__") [.type "bytearray", v])
    let b ← isInstance obj (.type "bytearray")
    if (!b) = true then do
        rule "type.call.new-gave-other-type"
        ret obj
      else do
        let r ← holding [obj] (callSpecial? obj (Str.ofString "__init__") [v])
        match r with
          | none => ret obj
          | some r => if (r != Value.none) = true then bad obj r else ret obj) := by
  have h1 := ba_called.notType
  have h2 := ba_called.canCreate
  unfold Builtin.«type.__call__»
  dsimp only
  simp only [h1, h2, ba_typeCall, ba_mro, ba_made, pure_bind, List.isEmpty_cons, Bool.false_eq_true, if_false]
  exact ⟨_, rfl⟩
theorem ba_ctor {n : Nat} {t : Tok} {Q : Value → Shared → Prop} (hn : 0 < n ∧ n ≤ 1000)
    (h : ∀ h', Sub s.heap h' → h'.get? s.heap.objs.size = some { cls := .type "bytearray", data := .bytearray (Array.replicate n 0) } → Q (.ref s.heap.objs.size) { s with heap := h' }) :
    wpC (model prog w) A (call (.type "bytearray") [.int (n : Int) t]) Q E s := by
  generalize hx : (n : Int) = x
  refine wpC_call (codeC_of_tree ?_)
  show wpC _ _ (callAny (.type "bytearray") _) _ _ _
  refine wpC_pure ⟨Code.quiet_builtin _ (by decide +kernel), rfl, codeC_builtin PySem.F.entry_type_call ?_⟩
  rw [Around.under_plain (weight_type_call_type "bytearray" _ []) (units_type_call_type "bytearray" _ [])]
  obtain ⟨bad, eb⟩ := ba_type_body (.int x t)
  rw [eb]
  obtain ⟨H, hH⟩ : ∃ H, H = s.heap.push { cls := .type "bytearray", data := .bytearray #[] } := ⟨_, rfl⟩
  have kH : Sub s.heap H := by subst hH; exact fun b o e => Heap.get?_push_of_some _ e
  have gH : H.get? s.heap.objs.size = some { cls := .type "bytearray", data := .bytearray #[] } := by subst hH; exact Heap.get?_push_size _ rfl
  refine wpC_seq (wpAny_holding (wpAny_call (codeAny_mono (ba_code_new (E := E) (Q₁ := fun v s' => v = .ref s.heap.objs.size ∧ s' = { s with heap := H }) _ (by rw [hH]; exact ⟨rfl, rfl⟩)) fun r s₁ hr => ?_)))
  match r, hr with
  | .error e, hr => exact hr
  | .ok (.ret v), hr =>
    obtain ⟨rfl, rfl⟩ := hr
    dsimp only
    have hT : ({ s with heap := H } : Shared).TypeIs (.ref s.heap.objs.size) "bytearray" := ⟨_, gH, rfl⟩
    refine wpC_seq (wpAny_isInstance hT ba_sub ?_)
    refine wpC_false rfl ?_
    refine wpC_bind (wpC_holding ?_)
    unfold callSpecial?
    refine wpC_seq (wpAny_specialOf hT ba_slot_init.lookup ?_)
    dsimp only
    refine wpC_holding ?_
    refine wpC_bind (wpC_of_eq (ba_slot_init.bind _) ?_)
    refine wpC_bind (wpC_call (codeC_of_tree ?_))
    show wpC _ A.in1.in1 (do checkBuiltinCall "bytearray.__init__" ⟨[.ref s.heap.objs.size, .int x t], []⟩; again (.builtin "bytearray.__init__" ⟨[.ref s.heap.objs.size, .int x t], []⟩)) _ _ _
    refine wpC_seq (ba_slot_init.check _ _ _ _ _ _ _ _ hT (ba_args _ _) ?_)
    refine wpC_pure ⟨plainId_quiet ba_slot_init.plain _, ba_clean _, codeC_builtin ba_entry_init ?_⟩
    rw [Around.under_plainId ba_slot_init.plain _]
    rw [← hx]
    refine ba_init (s := { s with heap := H }) (n := n) gH hn fun h' x' g' => ?_
    refine wpC_pure ?_
    show wpC _ _ (if (Value.none != Value.none) = true then _ else _) _ _ _
    refine wpC_false (by decide) ?_
    exact wpC_pure (h h' (fun b o e => x' b o (Nat.ne_of_lt (Heap.lt_size e)) (kH b o e)) g')
end
end Mine
end

section
open PySem PySem.W PyProof.Rows PySem.Calls
set_option maxRecDepth 100000
set_option linter.unusedVariables false
set_option maxHeartbeats 1000000
namespace Mine

theorem ba_slot_set : Slot "bytearray" "__setitem__" "bytearray.__setitem__" :=
  .of (owner := "bytearray") (n := "__setitem__") (by rw [typeLookup_type, builtinLookup_eq_fast]; kernel_rfl) (by decide +kernel) (by decide +kernel) (by decide +kernel)
    (by first | exact .inl (by decide +kernel) | exact .inr (by decide +kernel)) (by rw [isSubtype_type]; kernel_rfl)
theorem ba_entry_set : entryFor table "bytearray.__setitem__" = some Builtin.«bytearray.__setitem__» := entryFor_of_tree (by kernel_rfl)
theorem ba_args_set (a b c : Value) : argsOk "bytearray.__setitem__" ⟨[a, b, c], []⟩ := by unfold argsOk; kernel_rfl
theorem ba_no_bytes : typeLookup (.type "bytearray") "__bytes__" = pure none := by rw [typeLookup_type, builtinLookup_eq_fast]; kernel_rfl
theorem ba_no_index : typeLookup (.type "bytearray") "__index__" = pure none := by rw [typeLookup_type, builtinLookup_eq_fast]; kernel_rfl
theorem ba_buffer : typeLookup (.type "bytearray") "__buffer__" = pure (some (.builtin "bytearray.__buffer__")) := by rw [typeLookup_type, builtinLookup_eq_fast]; kernel_rfl

section
variable {prog : Program} {w : World} {A : Around} {E : Value → Shared → Prop} {s : Shared}
theorem ba_set {a : Addr} {b : Array UInt8} {k n : Nat} {t u : Tok} {Q : Unit → Shared → Prop} (ha : s.heap.get? a = some { cls := .type "bytearray", data := .bytearray b }) (hz : b.size ≤ 1000) (hk : k < b.size) (hn : n < 256)
    (h : ∀ h' tk, Heap.ExtBut a s.heap h' → h'.get? a = some { cls := .type "bytearray", data := .bytearray (b.setIfInBounds k n.toUInt8) } → Q () { s with heap := h', toks := tk }) :
    wpAny (model prog w) A (setItem (.ref a) (.int (k : Int) t) (.int (n : Int) u)) Q E s := by
  have hT : s.TypeIs (.ref a) "bytearray" := ⟨_, ha, rfl⟩
  generalize hx : (k : Int) = x
  generalize hy : (n : Int) = y
  unfold setItem
  try with_reducible refine wpAny_holding ?_
  first | refine wpAny_bind (wpAny_pure ?_) | skip
  refine wpAny_bind (wpAny_sequenceKey hT (by decide) ?_)
  refine wpAny_bind (wpAny_callSpecial?_slot (name := Str.ofString "__setitem__") hT ba_slot_set
    (wpAny_call_entry ba_slot_set hT ba_entry_set ?_ (ba_args_set _ _ _)))
  unfold Builtin.«bytearray.__setitem__»
  refine bm_if_false rfl ?_
  refine wpAny_bind ?_
  unfold Builtin.Bytes.subscript?
  refine wpAny_bind (wpAny_specialOf (typeIs_int _ x t) PySem.F.slot_int_index.lookup ?_)
  refine bm_if_false rfl ?_
  refine wpAny_bind (wpAny_of_eq (rfl : asIndex (.int x t) = pure x) ?_)
  refine bm_if_false (by
    simp only [Builtin.Bytes.fitsIndex, Bool.not_eq_false', Bool.and_eq_true, decide_eq_true_eq]
    omega) ?_
  refine wpAny_pure ?_
  dsimp only
  refine wpAny_bind ?_
  unfold Builtin.Bytes.byteValue
  refine wpAny_bind (wpAny_of_eq (rfl : asIndex (.int y u) = pure y) ?_)
  refine bm_if_false (by simp only [Bool.or_eq_false_iff, decide_eq_false_iff_not]; omega) ?_
  refine wpAny_pure ?_
  refine wpAny_bind ?_
  unfold Builtin.Bytes.payload Builtin.Bytes.payload?
  refine wpAny_bind (wpAny_bind (wpAny_load ha ?_))
  refine wpAny_pure (wpAny_pure ?_)
  dsimp only
  have e : seqIndex? x b.size = some k := by
    unfold seqIndex?
    rw [← hx]
    simp
    omega
  rw [e]
  dsimp only
  refine wpAny_bind ?_
  show wpAny _ _ (updateBytearray a (·.setIfInBounds k y.toNat.toUInt8)) _ _ _
  refine ba_write ha (by simpa using hz) fun h' x' g' => ?_
  rw [← hy, Int.toNat_natCast] at g'
  first
    | exact wpAny_pure ⟨.none, rfl, wpAny_pure (h h' _ x' g')⟩
    | exact wpAny_bind (wpAny_pure (wpAny_pure ⟨.none, rfl, wpAny_pure (h h' _ x' g')⟩))
theorem ba_bytes {a : Addr} {b : Array UInt8} {Q : Value → Shared → Prop} (ha : s.heap.get? a = some { cls := .type "bytearray", data := .bytearray b }) (hz : b.size ≤ 1000)
    (h : ∀ t tk, Q (.bytes b t) { s with toks := tk }) :
    wpAny (model prog w) A (call (.type "bytes") [.ref a]) Q E s := by
  have hT : s.TypeIs (.ref a) "bytearray" := ⟨_, ha, rfl⟩
  have key : ∀ (x : String) (Q : Bool → Shared → Prop) (A : Around) (E : Value → Shared → Prop), x = "bytearray" → Q true s → wpAny (model prog w) A (isInstance (.ref a) (.type x)) Q E s := fun x Q A E hx hq => by
    subst hx; exact wpAny_isInstance hT ba_sub hq
  refine callType_codes (Q₁ := fun obj s₁ => s₁.TypeIs obj "bytes" ∧ Q obj s₁) F.bm_called (F.bm_typeCall _) F.entry_object_init ?_ fun obj s₁ h₁ =>
    ⟨h₁.1, F.args_object_init_2 obj _, object_init_meets F.bm_called.init.lookup F.bm_called.made (by decide) prog w A.in1 _ s₁ ⟨h₁.1, rfl, h₁.2⟩⟩
  refine codeAny_of_tree ?_
  show wpAny _ _ (do checkBuiltinCall "bytes.__new__" ⟨[.type "bytes", .ref a], []⟩; again (.builtin "bytes.__new__" ⟨[.type "bytes", .ref a], []⟩)) _ _ s
  refine wpAny_bind (wpAny_of_eq (F.bm_newCall _) (wpAny_pure ⟨plainId_quiet F.bm_plain _, codeAny_builtin F.bm_entry ?_⟩))
  rw [Around.under_plainId F.bm_plain _]
  unfold Builtin.«bytes.__new__»
  refine wpAny_bind (wpAny_of_eq (a := true) rfl ?_)
  refine bm_if_false rfl ?_
  refine wpAny_bind (wpAny_of_eq F.bm_sub ?_)
  refine bm_if_false rfl ?_
  refine wpAny_bind (wpAny_of_eq (F.bm_bind _) ?_)
  refine wpAny_bind (wpAny_of_eq (a := ()) rfl ?_)
  refine wpAny_bind (wpAny_of_eq (a := ()) rfl ?_)
  refine bm_if_false rfl ?_
  refine wpAny_bind (wpAny_specialOf hT ba_no_bytes ?_)
  refine wpAny_bind (wpAny_bind ?_)
  show wpAny _ _ (load a >>= _) _ _ _
  refine wpAny_bind (wpAny_load ha ?_)
  refine wpAny_pure (wpAny_pure ?_)
  refine bm_if_false rfl ?_
  refine wpAny_bind (wpAny_specialOf hT ba_no_index ?_)
  refine bm_if_true rfl ?_
  first
    | show wpAny _ _ (Builtin.Bytes.buffer? "bytes.__new__" (.ref a) true >>= _) _ _ _
    | (refine wpAny_bind ?_; show wpAny _ _ (Builtin.Bytes.buffer? "bytes.__new__" (.ref a) true >>= _) _ _ _)
  refine wpAny_bind ?_
  unfold Builtin.Bytes.buffer?
  refine wpAny_bind (wpAny_specialOf hT ba_buffer ?_)
  dsimp only
  refine wpAny_bind ?_
  unfold Builtin.Bytes.slotIsOwn
  refine wpAny_bind (wpAny_specialOf hT ba_buffer ?_)
  refine bm_if_false (by decide +kernel) ?_
  refine key _ _ _ _ (by decide +kernel) ?_
  refine bm_if_false rfl ?_
  refine wpAny_bind (wpAny_specialOf hT ba_buffer ?_)
  refine wpAny_bind (ba_no_own hT ?_)
  refine bm_if_false rfl ?_
  refine wpAny_bind ?_
  unfold Builtin.Bytes.payload Builtin.Bytes.payload?
  refine wpAny_bind (wpAny_bind (wpAny_load ha ?_))
  refine wpAny_pure (wpAny_pure ?_)
  refine wpAny_pure ?_
  dsimp only
  refine wpAny_bind (wpAny_rule ?_)
  refine wpAny_bind (wpAny_mkBytes ?_ (by rw [sizeLine_eq]; omega))
  show wpAny _ _ (if (Value.type "bytes" == Value.type "bytes") = true then _ else _) _ _ _
  refine bm_if_true (by decide) ?_
  first
    | exact wpAny_pure ⟨PySem.W.typeIs_bytes _ _ _, h _ _⟩
    | exact wpAny_bind (wpAny_pure (wpAny_pure ⟨PySem.W.typeIs_bytes _ _ _, h _ _⟩))
end
end Mine
end

section
open PySem PySem.W PyProof.Rows PySem.Calls
set_option maxRecDepth 100000
set_option linter.unusedVariables false
set_option maxHeartbeats 1000000
namespace Mine

/-- entering a def without cells, on a clean stack -/
theorem enterFC {w : World} {A : Around} {R : Result → Shared → Prop} {s : Shared} {k : Nat} {name qual : Str} {params : Arguments} {body : List Stmt} {scope : Scope} {dV kV doc pm cdv ct oc : Value} {an od : Option Addr} {osl : Array (Option Value)} {f : Addr} {args : Args} {binds : List (Str × Value)}
    (S : Sta w s.heap) (rm : Rm A (k + 1))
    (ho : (hd.heap_39 w.params).lookup f = some ⟨oc, od, .func (fnOf name qual params body scope dV kV doc pm an cdv ct), osl⟩) (hcd : codeIn (hd.heap_39 w.params) cdv qual = true)
    (hbind : BindsTo s (fnOf name qual params body scope dV kV doc pm an cdv ct) args binds) (hloc : (binds.all fun x => decide (scope.names.lookup x.1 = some .local)) = true)
    (h : ∀ h₁ tk, Fr s.heap s.heap.objs.size h₁ (fun y => binds.reverse.lookup y) → Rm (A.deeper (envX qual scope s.heap.objs.size f cdv [])) k →
      wpC (model PySem.Challenge.rw_ho0001_01.row.prog w) (A.deeper (envX qual scope s.heap.objs.size f cdv [])) (execs body (envX qual scope s.heap.objs.size f cdv []))
        (fun fl s' => R (.ok (.ret (match fl with | .ret v => v | _ => .none))) s') (fun _ _ => False) { s with heap := h₁, toks := tk })
    (hcell : ∀ x ∈ scope.names, x.2 ≠ .cell) (hco : scope.isCoroutine = false) (hgen : scope.isGenerator = false) (hk : scope.kind = .function) :
    codeC (model PySem.Challenge.rw_ho0001_01.row.prog w) A (.call (.ref f) args) R s := by
  obtain ⟨_, _, _, _, T⟩ := S.T
  refine codeC_fun (fd := fnOf name qual params body scope dV kV doc pm an cdv ct) (body := body) (by have := rm.depth; show A.depth < 1000; omega) (S.K _ _ ho) rfl hco hgen rfl (codeRec_of S.K hcd) (hbind _ _ _ _ ?_)
  refine wpAny_newFunctionEnv hcell (locs hloc) (fun h₀ hns₀ hsb₀ => ⟨T.nolimit.fresh _ hsb₀, codeC_func (h h₀ _ ⟨hns₀, fun b o e => ?_, Nat.le_refl _⟩ rm.deeper)⟩) hk
  exact hsb₀.extBut b o (Nat.ne_of_lt (Heap.lt_size e)) (Heap.get?_push_of_some _ e)

section
variable {w : World} {A : Around} {env : Env} {ref h₀ : Heap} {m : Str → Option Value} {R R₁ R₂ R₃ R₄ : VP} {E : Value → Shared → Prop} {s : Shared} {news : List (Addr × Obj)}
theorem c_call1 {f : Value} {fe e : Expr} {pos : Pos} {Q : Value → Shared → Prop} (Hf : Ev w A env ref m fe (eqv f)) (H : Ev w A env ref m e R₁) (F : Fm ref env.locals m s.heap)
    (hk : ∀ h, Sub ref h → Kp (model PySem.Challenge.rw_ho0001_01.row.prog w) f h)
    (k : ∀ a s', Keeps s s' → R₁.p a s'.heap → wpC (model PySem.Challenge.rw_ho0001_01.row.prog w) A (call f [a]) Q E s')
    (hc : eval (.Call fe [e] [] pos) env = (do callWith pos (← eval fe env) [] (backTo pos (starEach [e] env)) (backToKw pos (keywordEach [] env))) := by rfl)
    (he : starEach [e] env = (false, eval e env) :: starEach [] env := by rfl) : wpC (model PySem.Challenge.rw_ho0001_01.row.prog w) A (eval (.Call fe [e] [] pos) env) Q E s := by
  rw [hc]
  refine wpC_seq (Hf.use F fun v s₁ hv k₁ => ?_)
  obtain rfl : v = f := hv
  refine wpC_callWith (wpC_any (spliced_more (H.use (F.keeps (ksub k₁)) fun a s₂ ha k₂ => spliced_none ?_) he)) he rfl
  have kk := ktrans k₁ k₂
  exact ⟨hk _ (F.keeps (ksub kk)).keep, k a s₂ kk ha⟩
theorem c_call2 {f : Value} {fe e e' : Expr} {pos : Pos} {Q : Value → Shared → Prop} (Hf : Ev w A env ref m fe (eqv f)) (H : Ev w A env ref m e R₁) (H' : Ev w A env ref m e' R₂) (F : Fm ref env.locals m s.heap)
    (hk : ∀ h, Sub ref h → Kp (model PySem.Challenge.rw_ho0001_01.row.prog w) f h)
    (k : ∀ a b s', Keeps s s' → R₁.p a s'.heap → R₂.p b s'.heap → wpC (model PySem.Challenge.rw_ho0001_01.row.prog w) A (call f [a, b]) Q E s')
    (hc : eval (.Call fe [e, e'] [] pos) env = (do callWith pos (← eval fe env) [] (backTo pos (starEach [e, e'] env)) (backToKw pos (keywordEach [] env))) := by rfl)
    (he : starEach [e, e'] env = (false, eval e env) :: starEach [e'] env := by rfl) (he' : starEach [e'] env = (false, eval e' env) :: starEach [] env := by rfl)
    (hp : (backTo pos (starEach [e'] env)).any (·.1) = false := by rfl) : wpC (model PySem.Challenge.rw_ho0001_01.row.prog w) A (eval (.Call fe [e, e'] [] pos) env) Q E s := by
  rw [hc]
  refine wpC_seq (Hf.use F fun v s₁ hv k₁ => ?_)
  obtain rfl : v = f := hv
  refine wpC_callWith (wpC_any (spliced_more (H.use (F.keeps (ksub k₁)) fun a s₂ ha k₂ => spliced_more (H'.use (F.keeps (ksub (ktrans k₁ k₂))) fun b s₃ hb k₃ => spliced_none ?_) he') he)) he hp
  have kk := ktrans (ktrans k₁ k₂) k₃
  exact ⟨hk _ (F.keeps (ksub kk)).keep, k a b s₃ kk (R₁.st _ _ _ ha (ksub k₃)) hb⟩
theorem ev_call3 {f : Value} {fe e₁ e₂ e₃ : Expr} {pos : Pos} (S : Sta w ref) (hf : Cbl w f) (Hf : Ev w A env ref m fe (eqv f)) (H₁ : Ev w A env ref m e₁ R₁) (H₂ : Ev w A env ref m e₂ R₂) (H₃ : Ev w A env ref m e₃ R₃)
    (h : ∀ a b c s, Fm ref env.locals m s.heap → R₁.p a s.heap → R₂.p b s.heap → R₃.p c s.heap → Cl w A f [a, b, c] R s)
    (hc : eval (.Call fe [e₁, e₂, e₃] [] pos) env = (do callWith pos (← eval fe env) [] (backTo pos (starEach [e₁, e₂, e₃] env)) (backToKw pos (keywordEach [] env))) := by rfl)
    (x₁ : starEach [e₁, e₂, e₃] env = (false, eval e₁ env) :: starEach [e₂, e₃] env := by rfl)
    (x₂ : starEach [e₂, e₃] env = (false, eval e₂ env) :: starEach [e₃] env := by rfl) (x₃ : starEach [e₃] env = (false, eval e₃ env) :: starEach [] env := by rfl)
    (hp : (backTo pos (starEach [e₂, e₃] env)).any (·.1) = false := by rfl) : Ev w A env ref m (.Call fe [e₁, e₂, e₃] [] pos) R := fun s E F => by
  refine Call_ (Hf.use F fun v s₁ hv k => ?_) hc
  obtain rfl : v = f := hv
  refine cw S hf ?_ x₁ hp
  refine spliced_more (H₁.use (F.keeps (ksub k)) fun a s₂ ha k₂ => ?_) x₁
  have q₂ := ktrans k k₂
  refine spliced_more (H₂.use (F.keeps (ksub q₂)) fun b s₃ hb k₃ => ?_) x₂
  have q₃ := ktrans q₂ k₃
  refine spliced_more (H₃.use (F.keeps (ksub q₃)) fun c s₄ hc k₄ => spliced_none ?_) x₃
  have q₄ := ktrans q₃ k₄
  exact ⟨(F.keeps (ksub q₄)).keep, (h a b c s₄ (F.keeps (ksub q₄)) (R₁.st _ _ _ ha (ksub (ktrans k₃ k₄))) (R₂.st _ _ _ hb (ksub k₄)) hc).use fun r s₅ hr k₅ => ⟨hr, ktrans q₄ k₅⟩⟩
theorem pyiterR {r : Addr} {a b c : Int} {t u v : Tok} {n : Nat} {Q : Value → Shared → Prop} (hh : A.handled = none) (hr : IsRange s.heap r a b c t u v) (hs : Builtin.Range.small a b c = true) (hn : Builtin.Range.rangeSize a b c = (n : Int))
    (h : ∀ I h' St, Sub s.heap h' → s.heap.get? I = none → Walks PySem.Challenge.rw_ho0001_01.row.prog w A I [I] [I] n (fun i v => ∃ t, v = Value.int (a + (i : Int) * c) t) St → St 0 h' → (∀ i h, St i h → ∃ o, h.get? I = some o) → Q (.ref I) { s with heap := h' }) :
    wpAny (model PySem.Challenge.rw_ho0001_01.row.prog w) A (pyIter (.ref r)) Q E s := by
  refine wpAny_pyIter_range hr hs ?_
  rw [hn]
  refine h _ _ _ (fun b o e => Heap.get?_push_of_some _ e) (new_none _) (Walks.range hh s.heap.objs.size a c n) ?_ (fun i h x => ⟨_, x⟩)
  have := Heap.get?_push_size s.heap (o := { cls := .type "range_iterator", data := .fields #[rawInt a, rawInt n, rawInt c] }) rfl
  simpa [IsRangeIter] using this
end

def revP (p : Fin 24) : Fin 24 := mul 23 p
def swapTo (p : Fin 24) (j : Nat) : Array UInt8 := (List.range j).foldl (fun b k => b.setIfInBounds (3 - k) ((PB p).getD k 0)) #[0, 0, 0, 0]
theorem swapTo_succ (p : Fin 24) (j : Nat) : swapTo p (j + 1) = (swapTo p j).setIfInBounds (3 - j) ((PB p).getD j 0) := by
  unfold swapTo
  rw [List.range_succ, List.foldl_append]; rfl
theorem swapTo_size (p : Fin 24) (j : Nat) : (swapTo p j).size = 4 := by
  induction j with
  | zero => rfl
  | succ j ih => rw [swapTo_succ, Array.size_setIfInBounds, ih]
theorem swapTo_all : ∀ p : Fin 24, swapTo p 4 = (PB (revP p)).toArray := by decide +kernel

theorem swap_c {w : World} {A : Around} {E : Value → Shared → Prop} {s : Shared} {k : Nat} {Q : Value → Shared → Prop} (S : Sta w s.heap) (rm : Rm A (k + 1)) {p : Fin 24} {t u : Tok}
    (K : ∀ v s', (isP (revP p)).p v s'.heap → Keeps s s' → Q v s') : wpC (model PySem.Challenge.rw_ho0001_01.row.prog w) A (call (.ref 21) [.bytes (PB p).toArray t, .int 4 u]) Q E s := by
  refine wpC_call ?_
  refine' enterFC S rm (f := 21) (binds := [(Str.ofString "data", .bytes (PB p).toArray t), (Str.ofString "width", .int 4 u)]) ?ho ?hcd ?hb ?hl ?_ ?hc ?h1 ?h2 ?h3
  case ho => with_unfolding_all rfl
  case hcd => kernel_rfl
  case hb => exact BindsTo.of_eq rfl
  case hl => exact rfl
  case hc => decide
  case h1 => exact rfl
  case h2 => exact rfl
  case h3 => exact rfl
  intro h₁ tk F rm'
  have S₁ : Sta w h₁ := S.keeps F.keep
  have hz : (PB p).toArray.size = 4 := by rw [List.size_toArray]; exact PB_len p
  have lenC : ∀ {A : Around} {s : Shared}, Cl w A (.builtin "len") [.bytes (PB p).toArray t] (isI ((4 : Nat) : Int)) s := fun E => by
    refine len_bytes (by rw [hz]; decide) ?_
    rw [hz]
    exact ⟨⟨_, rfl⟩, kof (Sub.refl _)⟩
  refine wpC_execs_cons (wpC_Assign_Name (c_call1 (ref := h₁) (f := .type "bytearray") (R₁ := isI ((4 : Nat) : Int)) (ev_boot S₁ (by kernel_rfl) (by rfl)) (ev_call1 (R₁ := eqv (.bytes (PB p).toArray t)) S₁ (.inr (.inl ⟨_, rfl⟩)) (ev_boot S₁ (by kernel_rfl) (by rfl)) (ev_local (by rfl)) fun a s' F' ha => ?_) (fr_self F) (fun h k => kp_type) fun a s₂ k₂ ha => ?_))
  · obtain rfl := ha; exact lenC
  obtain ⟨_, rfl⟩ := ha
  obtain ⟨h₂, t₂, rfl, k₂⟩ := k₂
  have F₂ := F.keptAll k₂
  refine ba_ctor (n := 4) (by decide) fun h₃ k₃ gB => ?_
  have rB : h₂.get? h₂.objs.size = none := new_none _
  dsimp only at gB ⊢
  generalize h₂.objs.size = B at gB rB ⊢
  have F₃ := F₂.keptAll k₃
  have nB : s.heap.get? B = none := none_of_sub F₂.keep rB
  have BL : B ≠ s.heap.objs.size := Ne.symm (by obtain ⟨oL, _, _, hL, _⟩ := F₂.ns; exact ne_of_get hL rB)
  refine storeL F₃ fun h₄ t₄ F₄ x₄ => ?_
  dsimp only
  have gB₄ := x₄ _ _ BL gB
  have S₄ : Sta w h₄ := S.keeps F₄.keep
  -- for i in range(0, len(data), width)
  refine wpC_execs_cons (wpC_any (wpAny_For (Ev.use (ref := h₄) (R := ⟨fun v h => ∃ r t u x, v = .ref r ∧ IsRange h r 0 4 4 t u x, fun v h h' x k => by obtain ⟨r, t, u, x, e, q⟩ := x; exact ⟨r, t, u, x, e, k _ _ q⟩⟩)
    (ev_call3 (f := .type "range") (R₁ := isI 0) (R₂ := isI ((4 : Nat) : Int)) (R₃ := eqv (.int 4 u)) S₄ (.inl ⟨_, rfl⟩) (ev_boot S₄ (by kernel_rfl) (by rfl)) ev_int (ev_call1 (R₁ := eqv (.bytes (PB p).toArray t)) S₄ (.inr (.inl ⟨_, rfl⟩)) (ev_boot S₄ (by kernel_rfl) (by rfl)) (ev_local (by rfl)) fun a s' F' ha => ?_) (ev_local (by rfl)) fun a b c s' F' ha hb hc E' => ?_) (fr_self F₄) fun v s₅ hv k₅ => ?_)))
  · obtain rfl := ha; exact lenC
  · obtain ⟨_, rfl⟩ := ha
    obtain ⟨_, rfl⟩ := hb
    obtain rfl := hc
    refine call_range_3 (by decide) ⟨⟨_, _, _, _, rfl, IsRange.new s'.heap 0 4 4 _ _ _⟩, kof fun b o e => Heap.get?_push_of_some _ e⟩ ?_
    exact .inl (PyProof.noPylong_small (by decide))
  obtain ⟨r, _, _, _, rfl, hr⟩ := hv
  obtain ⟨h₅, t₅, rfl, k₅⟩ := k₅
  refine pyiterR (n := 1) rm'.hh hr (by decide +kernel) (by decide +kernel) fun I h₆ St k₆ rI W st₆ hst => ?_
  have F₆ := F₄.keptAll (Sub.trans k₅ k₆)
  have nI : s.heap.get? I = none := none_of_sub (F₄.keptAll k₅).keep rI
  have IL : I ≠ s.heap.objs.size := Ne.symm (by obtain ⟨oL, _, _, hL, _⟩ := (F₄.keptAll k₅).ns; exact ne_of_get hL rI)
  have BI : B ≠ I := ne_of_get (k₅ _ _ gB₄) rI
  have stay : ∀ {i : Nat} {h h' : Heap} {b : Addr}, St i h → Heap.ExtBut b h h' → I ≠ b → St i h' := fun st x n => W.frame _ _ _ st fun c hc o => by
    rw [List.mem_singleton.mp hc]; exact x _ o n
  refine codeAny_forLoop (fun n s' => ∃ h tk m i, s' = { s with heap := h, toks := tk } ∧ Fr s.heap s.heap.objs.size h m ∧ m (Str.ofString "data") = some (.bytes (PB p).toArray t) ∧ m (Str.ofString "width") = some (.int 4 u) ∧ m (Str.ofString "swapped_data") = some (.ref B) ∧
    h.get? B = some { cls := .type "bytearray", data := .bytearray (swapTo p (4 * i)) } ∧ St i h ∧ i ≤ 1 ∧ n = 2 - i) ?_ 2 ⟨h₆, _, _, 0, rfl, F₆, by rfl, by rfl, by rfl, k₆ _ _ (k₅ _ _ gB₄), st₆, by decide, rfl⟩
  rintro n _ ⟨h, tk, m, i, rfl, F, hmd, hmw, hms, gB, st, hi, rfl⟩
  by_cases hi1 : i = 1
  · subst hi1
    refine W.done _ _ _ st fun h' tk' x => wpAny_execs_nil ?_
    have x' : Heap.ExtBut I h h' := fun b o hb e => x b o (by simpa using hb) e
    have F' := fr_ext F IL nI x'
    have gB' := x' _ _ BI gB
    have S' : Sta w h' := S.keeps F'.keep
    refine wpC_any (wpAny_execs_cons (wpAny_Return_some (Ev.use (ref := h') (R := isP (revP p)) (ev_call1 (f := .type "bytes") (R₁ := eqv (.ref B)) S' (.inl ⟨_, rfl⟩) (ev_boot S' (by kernel_rfl) (by rfl)) (ev_local hms) fun a s' F'' ha E' => ?_) (fr_self F') fun v s' hv kk => ?_)))
    · obtain rfl := ha
      refine ba_bytes (F''.keep _ _ gB') (by rw [swapTo_size]; decide) fun t' tk' => ⟨⟨t', ?_⟩, kof (Sub.refl _)⟩
      rw [show 4 * 1 = 4 from rfl, swapTo_all]
    · exact K _ _ hv (ktrans (kof F'.keep) kk)
  · obtain rfl : i = 0 := by omega
    refine W.item 0 _ _ _ (by decide) st fun v h' tk' hv st' x => ?_
    obtain ⟨ti, rfl⟩ := hv
    have x' : Heap.ExtBut I h h' := fun b o hb e => x b o (by simpa using hb) e
    have F' := fr_ext F IL nI x'
    have gB' := x' _ _ BI gB
    refine wpAny_assign_Name (storeL F' fun h₇ t₇ F₇ x₇ => ?_)
    have gB₇ := x₇ _ _ BL gB'
    have st₇ := stay st' x₇ IL
    have S₇ : Sta w h₇ := S.keeps F₇.keep
    have q1 : upd m (Str.ofString "i") (.int (0 + ((0 : Nat) : Int) * 4) ti) (Str.ofString "data") = some (.bytes (PB p).toArray t) := upd_ne (by decide) hmd
    have q2 : upd m (Str.ofString "i") (.int (0 + ((0 : Nat) : Int) * 4) ti) (Str.ofString "width") = some (.int 4 u) := upd_ne (by decide) hmw
    have q3 : upd m (Str.ofString "i") (.int (0 + ((0 : Nat) : Int) * 4) ti) (Str.ofString "swapped_data") = some (.ref B) := upd_ne (by decide) hms
    have q4 : upd m (Str.ofString "i") (.int (0 + ((0 : Nat) : Int) * 4) ti) (Str.ofString "i") = some (.int 0 ti) := upd_at
    generalize upd m (Str.ofString "i") (.int (0 + ((0 : Nat) : Int) * 4) ti) = m₇ at F₇ q1 q2 q3 q4
    -- for j in range(width)
    refine wpAny_execs_cons (wpAny_For (Ev.use (ref := h₇) (R := isRg 4) (ev_call1 (f := .type "range") (R₁ := eqv (.int 4 u)) S₇ (.inl ⟨_, rfl⟩) (ev_boot S₇ (by kernel_rfl) (by rfl)) (ev_local q2) fun a s' F' ha E' => ?_) (fr_self F₇) fun v s₈ hv k₈ => ?_))
    · obtain rfl := ha
      exact call_range_1 ⟨⟨_, _, _, _, rfl, IsRange.new s'.heap 0 4 1 _ _ _⟩, kof fun b o e => Heap.get?_push_of_some _ e⟩
    obtain ⟨r', _, _, _, rfl, hr'⟩ := hv
    obtain ⟨h₈, t₈, rfl, k₈⟩ := k₈
    refine pyiterR (n := 4) rm'.hh hr' (by decide +kernel) (by decide +kernel) fun J h₉ St' k₉ rJ W' st₉ hst' => ?_
    have F₉ := F₇.keptAll (Sub.trans k₈ k₉)
    have nJ : s.heap.get? J = none := none_of_sub (F₇.keptAll k₈).keep rJ
    have JL : J ≠ s.heap.objs.size := Ne.symm (by obtain ⟨oL, _, _, hL, _⟩ := (F₇.keptAll k₈).ns; exact ne_of_get hL rJ)
    have BJ : B ≠ J := ne_of_get (k₈ _ _ gB₇) rJ
    have IJ : I ≠ J := by obtain ⟨o, ho⟩ := hst _ _ st₇; exact ne_of_get (k₈ _ _ ho) rJ
    have stay' : ∀ {i : Nat} {h h' : Heap} {b : Addr}, St' i h → Heap.ExtBut b h h' → J ≠ b → St' i h' := fun st x n => W'.frame _ _ _ st fun c hc o => by
      rw [List.mem_singleton.mp hc]; exact x _ o n
    refine codeAny_forLoop (fun n s' => ∃ h tk m j, s' = { s with heap := h, toks := tk } ∧ Fr s.heap s.heap.objs.size h m ∧ m (Str.ofString "data") = some (.bytes (PB p).toArray t) ∧ m (Str.ofString "width") = some (.int 4 u) ∧ m (Str.ofString "swapped_data") = some (.ref B) ∧ m (Str.ofString "i") = some (.int 0 ti) ∧
      h.get? B = some { cls := .type "bytearray", data := .bytearray (swapTo p j) } ∧ St 1 h ∧ St' j h ∧ j ≤ 4 ∧ n = 5 - j) ?_ 5 ⟨h₉, _, _, 0, rfl, F₉, q1, q2, q3, q4, k₉ _ _ (k₈ _ _ gB₇), W.frame _ _ _ st₇ fun c hc o e => k₉ _ _ (k₈ _ _ e), st₉, by decide, rfl⟩
    clear q1 q2 q3 q4 hmd hmw hms
    rintro n _ ⟨h, tk, m, j, rfl, F, hmd, hmw, hms, hmi, gB, st, stj, hj, rfl⟩
    by_cases hj4 : j = 4
    · subst hj4
      refine W'.done _ _ _ stj fun h' tk' x => wpAny_execs_nil (wpAny_execs_nil ?_)
      have x' : Heap.ExtBut J h h' := fun b o hb e => x b o (by simpa using hb) e
      exact ⟨1, by decide, h', tk', m, 1, rfl, fr_ext F JL nJ x', hmd, hmw, hms, x' _ _ BJ gB, stay st x' IJ, by decide, rfl⟩
    · refine W'.item j _ _ _ (by omega) stj fun v h' tk' hv stj' x => ?_
      obtain ⟨tj, rfl⟩ := hv
      have x' : Heap.ExtBut J h h' := fun b o hb e => x b o (by simpa using hb) e
      have F' := fr_ext F JL nJ x'
      have gB' := x' _ _ BJ gB
      have st' := stay st x' IJ
      rw [show (0 : Int) + (j : Int) * 1 = (j : Int) by omega]
      refine wpAny_assign_Name (storeL F' fun h₁₀ t₁₀ F₁₀ x₁₀ => ?_)
      have gB₁₀ := x₁₀ _ _ BL gB'
      have st₁₀ := stay st' x₁₀ IL
      have stj₁₀ := stay' stj' x₁₀ JL
      have q1 : upd m (Str.ofString "j") (.int (j : Int) tj) (Str.ofString "data") = some (.bytes (PB p).toArray t) := upd_ne (by decide) hmd
      have q2 : upd m (Str.ofString "j") (.int (j : Int) tj) (Str.ofString "width") = some (.int 4 u) := upd_ne (by decide) hmw
      have q3 : upd m (Str.ofString "j") (.int (j : Int) tj) (Str.ofString "swapped_data") = some (.ref B) := upd_ne (by decide) hms
      have q4 : upd m (Str.ofString "j") (.int (j : Int) tj) (Str.ofString "i") = some (.int 0 ti) := upd_ne (by decide) hmi
      have q5 : upd m (Str.ofString "j") (.int (j : Int) tj) (Str.ofString "j") = some (.int (j : Int) tj) := upd_at
      generalize upd m (Str.ofString "j") (.int (j : Int) tj) = m₁₀ at F₁₀ q1 q2 q3 q4 q5
      refine wpAny_execs_cons (wpAny_Assign_Subscript (Ev.use (ref := h₁₀) (R := isI (((PB p).getD j 0).toNat : Int)) (ev_sub (R₁ := eqv (.bytes (PB p).toArray t)) (R₂ := isI (j : Int)) (ev_local q1) (ev_bin (R₁ := eqv (.int 0 ti)) (R₂ := eqv (.int (j : Int) tj)) (ev_local q4) (ev_local q5) fun a b s' E' F' ha hb => ?_) fun a b s' E' F' ha hb => ?_) (fr_self F₁₀) fun v s₁₁ hv k₁₁ => ?_))
      · obtain rfl := ha
        obtain rfl := hb
        exact add_int ⟨⟨_, by rw [Int.zero_add]⟩, kof (Sub.refl _)⟩
      · exact sub_bytes ⟨_, ha⟩ hb (by rw [PB_len]; omega) (by rw [PB_len]; decide)
      obtain ⟨tv, rfl⟩ := hv
      obtain ⟨h₁₁, t₁₁, rfl, k₁₁⟩ := k₁₁
      refine Ev.use (ref := h₁₁) (ev_local q3) (fr_self (F₁₀.keptAll k₁₁)) fun v s₁₂ hv k₁₂ => ?_
      obtain rfl := hv
      obtain ⟨h₁₂, t₁₂, rfl, k₁₂⟩ := k₁₂
      refine Ev.use (ref := h₁₂) (R := isI ((3 - j : Nat) : Int)) (ev_bin (R₁ := isI 3) (R₂ := eqv (.int (j : Int) tj)) (ev_bin (R₁ := isI 4) (R₂ := isI 1) (ev_bin (R₁ := eqv (.int 0 ti)) (R₂ := eqv (.int 4 u)) (ev_local q4) (ev_local q2) fun a b s' E' F' ha hb => ?_) ev_int fun a b s' E' F' ha hb => ?_) (ev_local q5) fun a b s' E' F' ha hb => ?_) (fr_self ((F₁₀.keptAll k₁₁).keptAll k₁₂)) fun v s₁₃ hv k₁₃ => ?_
      · obtain rfl := ha
        obtain rfl := hb
        exact add_int ⟨⟨s'.toks, rfl⟩, kof (Sub.refl _)⟩
      · obtain ⟨_, rfl⟩ := ha
        obtain ⟨_, rfl⟩ := hb
        exact PyProof.Rows.sub_int ⟨⟨s'.toks, rfl⟩, kof (Sub.refl _)⟩
      · obtain ⟨_, rfl⟩ := ha
        obtain rfl := hb
        exact PyProof.Rows.sub_int ⟨⟨s'.toks, by congr 1; omega⟩, kof (Sub.refl _)⟩
      obtain ⟨ti', rfl⟩ := hv
      obtain ⟨h₁₃, t₁₃, rfl, k₁₃⟩ := k₁₃
      have kk : Sub h₁₀ h₁₃ := Sub.trans k₁₁ (Sub.trans k₁₂ k₁₃)
      refine ba_set (b := swapTo p j) (kk _ _ gB₁₀) (by rw [swapTo_size]; decide) (by rw [swapTo_size]; omega) (UInt8.toNat_lt _) fun h₁₄ t₁₄ x₁₄ gB₁₄ => wpAny_execs_nil ?_
      rw [show ((PB p).getD j 0).toNat.toUInt8 = (PB p).getD j 0 by simp, ← swapTo_succ] at gB₁₄
      have F₁₄ := fr_ext (F₁₀.keptAll kk) BL nB x₁₄
      exact ⟨5 - (j + 1), by omega, h₁₄, _, m₁₀, j + 1, rfl, F₁₄, q1, q2, q3, q4, gB₁₄, stay (W.frame _ _ _ st₁₀ fun c hc o e => kk _ _ e) x₁₄ (Ne.symm BI), stay' (W'.frame _ _ _ stj₁₀ fun c hc o e => kk _ _ e) x₁₄ (Ne.symm BJ), by omega, rfl⟩
end Mine
end

section
open PySem PySem.W PyProof.Rows PySem.Calls
set_option maxRecDepth 100000
set_option linter.unusedVariables false
set_option maxHeartbeats 1000000
namespace Mine

section
variable {w : World} {A : Around} {E : Value → Shared → Prop} {s : Shared} {prog : Program} {env : Env}
theorem codeC_loop {c : Code} {R : Result → Shared → Prop} {M : Model} (hq : c.quiet = true) (hcl : clean c = true) (I : Nat → Shared → Prop)
    (turn : ∀ n s, I n s → wpC M (A.under c) (M.den c) (fun fin s' => match fin with | .done f => R (.ok f) s' | .again c' => c' = c ∧ ∃ m, m < n ∧ I m s') (fun e s' => R (.error e) s') s)
    (n : Nat) (h : I n s) : codeC M A c R s := by
  induction n using Nat.strongRecOn generalizing s with
  | ind n ih =>
    refine codeC_of_tree (wpC_mono (turn n s h) (fun fin s' hf => ?_) fun _ _ h' => h')
    cases fin with
    | done f => exact hf
    | again c' => obtain ⟨rfl, m, hm, hI⟩ := hf; exact ⟨hq, hcl, ih m hm hI⟩
theorem codeC_compLoop {R : Result → Shared → Prop} {elt target iter : Expr} {ifs : List Expr} {scope : Scope} {pos : Pos} {it acc : Value} (I : Nat → Shared → Prop)
    (turn : ∀ n s, I n s → wpAny (model prog w) A (pyNext it) (fun r s₁ => match r with
      | none => R (.ok .next) s₁
      | some v => wpAny (model prog w) A (assign target env v) (fun _ s₂ =>
          wpAny (model prog w) A (forIn ifs true fun c r => if r = true then do let ok ← isTrue c env (eval c env); pure (ForInStep.yield ok) else pure (ForInStep.yield r)) (fun ok s₃ =>
            if ok = true then wpC (model prog w) A (eval elt env) (fun x s₄ =>
              wpAny (model prog w) A (call (.builtin "list.append") [acc, x]) (fun _ s₅ => ∃ m, m < n ∧ I m s₅) (fun _ _ => False) s₄) (fun _ _ => False) s₃
            else ∃ m, m < n ∧ I m s₃) (fun _ _ => False) s₂) (fun _ _ => False) s₁) (fun _ _ => False) s)
    (n : Nat) (h : I n s) (ht : ∀ v, letOwnedTupleGo target it v = pure () := by intro _; rfl) :
    codeC (model prog w) A (.compLoop (.ListComp elt [⟨target, iter, ifs, 0⟩] scope pos) 0 it acc env) R s := by
  refine codeC_loop rfl rfl I (fun n s hI => ?_) n h
  show wpC _ A ((compTurn (.ListComp elt [⟨target, iter, ifs, 0⟩] scope pos) 0 it acc env).onRaise (fun x => do noteFrame x env; theTreesLotGoes x)) _ _ s
  refine wpC_onRaise (wpC_mono (E := fun _ _ => False) ?_ (fun _ _ x => x) fun _ _ x => x.elim)
  rw [compTurn_list]
  refine wpC_standAt (wpC_seq (wpAny_mono (turn n s hI) (fun r s₁ h₁ => ?_) fun _ _ h' => h'))
  cases r with
  | none => exact wpC_pure h₁
  | some v =>
    refine wpC_bind (wpC_of_eq (ht v) ?_)
    refine wpC_seq (wpAny_mono h₁ (fun _ s₂ h₂ => wpC_seq (wpAny_mono h₂ (fun ok s₃ h₃ => ?_) fun _ _ h' => h')) fun _ _ h' => h')
    cases ok with
    | false => exact wpC_pure ⟨rfl, h₃⟩
    | true =>
      exact wpC_bind (wpC_bind (wpC_mono h₃ (fun x s₄ h₄ => wpC_seq (wpAny_mono h₄ (fun _ s₅ h₅ => wpC_pure (wpC_pure ⟨rfl, h₅⟩)) fun _ _ h' => h')) fun _ _ h' => h'))
theorem codeC_compStart {R : Result → Shared → Prop} {elt target iter : Expr} {ifs : List Expr} {rest : List Comprehension} {scope : Scope} {pos : Pos} {it acc : Value}
    (h0 : codeC (model prog w) A (.compLoop (.ListComp elt (⟨target, iter, ifs, 0⟩ :: rest) scope pos) 0 it acc env) R s)
    (h : wpAny (model prog w) A (pyIter it) (fun it' s' => codeC (model prog w) A (.compLoop (.ListComp elt (⟨target, iter, ifs, 0⟩ :: rest) scope pos) 0 it' acc env) R s') (fun _ _ => False) s) :
    codeC (model prog w) A (.compStart (.ListComp elt (⟨target, iter, ifs, 0⟩ :: rest) scope pos) 0 it acc env) R s := by
  refine codeC_of_tree (wpC_any ?_)
  show wpAny _ _ ((compStart (.ListComp elt (⟨target, iter, ifs, 0⟩ :: rest) scope pos) 0 it acc env).onRaise (fun x => do noteFrame x env; standAt theWindowsPlace)) _ _ s
  refine wpAny_onRaise (wpAny_mono (E := fun _ _ => False) ?_ (fun _ _ x => x) fun _ _ x => x.elim)
  unfold compStart
  show wpAny _ _ (ask >>= _) _ _ s
  refine wpAny_bind (wpAny_askSetting (wpAny_ite ?_))
  split
  · first
      | exact wpAny_bind (wpAny_pure (wpAny_pure (And.intro rfl (And.intro rfl h0))))
      | exact wpAny_pure (And.intro rfl (And.intro rfl h0))
  · first
      | exact wpAny_bind (wpAny_rule (wpAny_bind (wpAny_standAt (wpAny_bind (wpAny_mono h (fun it' s' h' => wpAny_pure (And.intro rfl (And.intro rfl h'))) fun _ _ x => x)))))
      | (refine wpAny_bind (wpAny_rule ?_); show wpAny _ _ (standAt iter.pos >>= _) _ _ s; exact wpAny_bind (wpAny_standAt (wpAny_bind (wpAny_mono h (fun it' s' h' => wpAny_pure (And.intro rfl (And.intro rfl h'))) fun _ _ x => x))))

/-- a comprehension's end -/
def cFin (M : Model) (A : Around) (E : Value → Shared → Prop) (use : Option (Value → Sem Unit)) (Q : Value → Shared → Prop) (acc : Value) (C : Addr) (s' : Shared) : Prop := match use with
  | none => ∃ m, s'.heap.Ns C m ∧ ∀ h', Heap.SameBut C s'.heap h' → Q acc { s' with heap := h' }
  | some u => wpAny M A (u acc) (fun _ s'' => ∃ m, s''.heap.Ns C m ∧ ∀ h', Heap.SameBut C s''.heap h' → Q .none { s'' with heap := h' }) E s'
def cPost (M : Model) (A : Around) (E : Value → Shared → Prop) (use : Option (Value → Sem Unit)) (Q : Value → Shared → Prop) (acc : Value) (C : Addr) (r : Result) (s' : Shared) : Prop := match r with
  | .ok _ => cFin M A E use Q acc C s'
  | .error _ => False
theorem wpC_standIf {α : Type} {c : Prop} [Decidable c] {pos : Pos} {k : PUnit → Sem α} {M : Model} {Q : α → Shared → Prop} (h : wpC M A (k ()) Q E s) : wpC M A (if c then (standAt pos >>= k) else k ()) Q E s := by
  split
  · exact wpC_standAt h
  · exact h
theorem wpC_comp {e : Expr} {scope : Scope} {pos : Pos} {newAcc first : Sem Value} {g : Comprehension} {gs : List Comprehension} {cl : List (Str × Addr)} {use : Option (Value → Sem Unit)} {M : Model} {Q : Value → Shared → Prop}
    (hcl : clausesOf e = g :: gs) (hs : ∀ x, foldedSetIterable g.iter env x = pure x) (hclos : closureFor scope env = pure cl)
    (hkind : scope.kind = .function) (hnames : ∀ x ∈ scope.names, x.2 = .local → scope.names.lookup x.1 = some .local)
    (h : wpC M A first (fun x s₁ => wpAny M A (pyIter x) (fun it s₂ => wpAny M A newAcc (fun acc s₃ =>
      wpAny M A (newFunctionEnv scope env.globals cl [] env.qual none .none (some env)) (fun cenv s₄ =>
        codeC M A (.compStart e 0 it acc { cenv with scope := relabel scope env }) (cPost M A E use Q acc cenv.locals) s₄) E s₃) E s₂) E s₁) E s) :
    wpC M A (comprehension e scope env pos newAcc false first use) Q E s := by
  unfold comprehension
  rw [hclos, hcl]
  refine wpC_bind (wpC_mono h (fun x s₁ h₁ => wpC_standAt (wpC_bind (wpC_of_eq (hs x) (wpC_bind (wpC_holding (wpC_any (wpAny_mono h₁ (fun it s₂ h₂ => ?_) fun _ _ h' => h'))))))) fun _ _ h' => h')
  refine wpC_standIf (wpC_seq (wpAny_mono h₂ (fun acc s₃ h₃ => wpC_bind (wpC_pure (wpC_seq (wpAny_mono h₃ (fun cenv s₄ h₄ => ?_) fun _ _ h' => h')))) fun _ _ h' => h'))
  dsimp only
  have hv : ∀ x ∈ (scope.names.filter fun x => (x.2 == .local || x.2 == .cell) && x.1 != (".0" : Str)).reverse, x.2 = .local →
      Env.kindOf { cenv with scope := relabel scope env } x.1 = some .local := fun x hx hl => lookup_relabel_local (hnames x (List.mem_filter.mp (List.mem_reverse.mp hx)).1 hl)
  have hv' : ∀ x ∈ (scope.names.filter fun x => (x.2 == .local || x.2 == .cell) && x.1 != (".0" : Str)).reverse.drop 1 ++ (scope.names.filter fun x => (x.2 == .local || x.2 == .cell) && x.1 != (".0" : Str)).reverse.take 1,
      x.2 = .local → Env.kindOf { cenv with scope := relabel scope env } x.1 = some .local := fun x hx hl => by
    rcases List.mem_append.mp hx with h1 | h1
    · exact hv x (List.mem_of_mem_drop h1) hl
    · exact hv x (List.mem_of_mem_take h1) hl
  refine wpC_holding (wpC_bind (wpC_attempt (wpC_holding (wpC_run rfl (codeC_mono h₄ fun r s' hr => ?_)))))
  cases r with
  | error x => exact hr.elim
  | ok f =>
    cases use with
    | none =>
      obtain ⟨m, hn, hr⟩ := hr
      exact wpC_any (wpAny_bind (wpAny_holding (wpAny_comp_letGo (cenv := { cenv with scope := relabel scope env }) hkind _ s' m hv hn fun h' m' _ hs' => wpAny_pure (hr h' hs'))))
    | some u =>
      refine wpC_any (wpAny_bind (wpAny_rule (wpAny_bind (wpAny_holding (wpAny_mono hr (fun _ s'' hr' => ?_) fun _ _ h' => h')))))
      obtain ⟨m, hn, hr'⟩ := hr'
      exact wpAny_bind (wpAny_comp_letGo (cenv := { cenv with scope := relabel scope env }) hkind _ s'' m hv' hn fun h' m' _ hs' => wpAny_pure (hr' h' hs'))
end
end Mine
end

section
open PySem PySem.W PyProof.Rows PySem.Calls
set_option maxRecDepth 100000
set_option linter.unusedVariables false
set_option maxHeartbeats 1000000
namespace Mine

/-- what is told of an item: of itself, or of the object that it is -/
structure IP (α : Type) where
  H : α → Value → Prop
  G : α → Obj → Prop
def IP.at {α : Type} (Y : IP α) (h : Heap) (y : Value) (a : α) : Prop := Y.H a y ∨ ∃ T o, y = .ref T ∧ h.get? T = some o ∧ Y.G a o
theorem IP.at.sub {α : Type} {Y : IP α} {h h' : Heap} {y : Value} {a : α} (x : Y.at h y a) (k : Sub h h') : Y.at h' y a := by
  rcases x with x | ⟨T, o, e, g, q⟩
  · exact .inl x
  · exact .inr ⟨T, o, e, k _ _ g, q⟩
/-- made anew -/
def IP.new {α : Type} (Y : IP α) (h₀ h : Heap) (y : Value) (a : α) : Prop := Y.H a y ∨ ∃ T o, y = .ref T ∧ h₀.get? T = none ∧ h.get? T = some o ∧ Y.G a o
def IP.off {α : Type} (Y : IP α) (I D C : Addr) (h : Heap) (y : Value) (a : α) : Prop := Y.H a y ∨ ∃ T o, y = .ref T ∧ T ≠ I ∧ T ≠ D ∧ T ≠ C ∧ h.get? T = some o ∧ Y.G a o
theorem IP.off.at {α : Type} {Y : IP α} {I D C : Addr} {h : Heap} {y : Value} {a : α} (x : Y.off I D C h y a) : Y.at h y a := by
  rcases x with x | ⟨T, o, e, _, _, _, g, q⟩
  · exact .inl x
  · exact .inr ⟨T, o, e, g, q⟩
theorem IP.off.ext {α : Type} {Y : IP α} {I D C : Addr} {h h' : Heap} {y : Value} {a : α} (x : Y.off I D C h y a) (k : ∀ b o, b ≠ I → b ≠ D → b ≠ C → h.get? b = some o → h'.get? b = some o) : Y.off I D C h' y a := by
  rcases x with x | ⟨T, o, e, h1, h2, h3, g, q⟩
  · exact .inl x
  · exact .inr ⟨T, o, e, h1, h2, h3, k _ _ h1 h2 h3 g, q⟩

section
variable {w : World} {A : Around} {E : Value → Shared → Prop} {s : Shared} {env : Env} {α : Type}
theorem c_block {elt iter : Expr} {x : Str} {px : Pos} {ifs : List Expr} {scope : Scope} {cl : List (Str × Addr)} {pos : Pos} {use : Option (Value → Sem Unit)} {Q : Value → Shared → Prop} {M : Addr} {vs : List Value} {nM : Nat} {ps : List α} {P : Value → α → Prop}
    (Y : IP α) (p : α → Bool) (hh : A.handled = none) (hcell : ∀ y ∈ scope.names, y.2 ≠ .cell) (hkind : scope.kind = .function) (hx : scope.names.lookup x = some .local)
    (hM : s.heap.get? M = some (PySem.W.listOf vs.toArray nM)) (hP : Paired P vs ps) (hz : ps.length ≤ 1000)
    (ht : ∀ C m₃ v a, P v a → m₃ x = some v → Trs w A (compEnvC scope cl C env) s.heap m₃ ifs (p a))
    (he : ∀ C m₃ v a, P v a → p a = true → m₃ x = some v → ∀ (s₃ : Shared) (E : Value → Shared → Prop), Fm s.heap C m₃ s₃.heap →
      wpC (model PySem.Challenge.rw_ho0001_01.row.prog w) A (eval elt (compEnvC scope cl C env)) (fun y s₄ => Y.new s₃.heap s₄.heap y a ∧ Keeps s₃ s₄) E s₃)
    (fin : ∀ D C m h' tk ys n', s.heap.get? D = none → s.heap.get? C = none → D ≠ C → Sub s.heap h' → h'.get? D = some (PySem.W.listOf ys.toArray n') → (∃ I, Paired (Y.off I D C h') ys (ps.filter p)) → h'.Ns C m →
      cFin (model PySem.Challenge.rw_ho0001_01.row.prog w) A E use Q (.ref D) C { s with heap := h', toks := tk }) :
    wpAny (model PySem.Challenge.rw_ho0001_01.row.prog w) A (pyIter (.ref M)) (fun it s₃ => wpAny (model PySem.Challenge.rw_ho0001_01.row.prog w) A (newList []) (fun acc s₄ =>
      wpAny (model PySem.Challenge.rw_ho0001_01.row.prog w) A (newFunctionEnv scope env.globals cl [] env.qual none .none (some env)) (fun cenv s₅ =>
        codeC (model PySem.Challenge.rw_ho0001_01.row.prog w) A (.compStart (.ListComp elt [⟨.Name x px, iter, ifs, 0⟩] scope pos) 0 it acc { cenv with scope := relabel scope env }) (cPost (model PySem.Challenge.rw_ho0001_01.row.prog w) A E use Q acc cenv.locals) s₅) E s₄) E s₃) E s := by
  refine pyiterL hM fun I h₃ k₃ rI it₃ => ?_
  refine wpAny_newList ?_
  obtain ⟨h₄, e₄⟩ : ∃ H, H = h₃.push { cls := .type "list", data := .seq ([] : List Value).toArray } := ⟨_, rfl⟩
  dsimp only
  rw [← e₄]
  have k₄ : Sub h₃ h₄ := by subst e₄; exact fun b o e => Heap.get?_push_of_some _ e
  have gD : h₄.get? h₃.objs.size = some (PySem.W.listOf ([] : List Value).toArray 0) := by subst e₄; exact Heap.get?_push_size _ rfl
  have rD : h₃.get? h₃.objs.size = none := new_none _
  generalize h₃.objs.size = D at gD rD ⊢
  clear e₄
  refine wpAny_newFunctionEnv hcell (by intro y hy; simp at hy) (fun h₅ hns₅ hsb₅ => ?_) hkind
  dsimp only at hns₅ hsb₅ ⊢
  have k₅ : Sub h₄ h₅ := fun b o e => hsb₅.extBut b o (Nat.ne_of_lt (Heap.lt_size e)) (Heap.get?_push_of_some _ e)
  have rC : h₄.get? h₄.objs.size = none := new_none _
  generalize h₄.objs.size = C at hns₅ rC ⊢
  clear hsb₅
  have lI : ∃ o, h₃.get? I = some o := by obtain ⟨o, ho, _⟩ := it₃; exact ⟨o, ho⟩
  obtain ⟨oI, gI⟩ := lI
  have ID : I ≠ D := ne_of_get gI rD
  have IC : I ≠ C := ne_of_get (k₄ _ _ gI) rC
  have DC : D ≠ C := ne_of_get gD rC
  have MI : M ≠ I := ne_of_get hM rI
  have MD : M ≠ D := ne_of_get (k₃ _ _ hM) rD
  have MC : M ≠ C := ne_of_get (k₄ _ _ (k₃ _ _ hM)) rC
  have sI : s.heap.get? I = none := rI
  have sD : s.heap.get? D = none := none_of_sub k₃ rD
  have sC : s.heap.get? C = none := none_of_sub (Sub.trans k₃ k₄) rC
  have old : ∀ {h h' : Heap} {b : Addr}, Sub s.heap h → Heap.ExtBut b h h' → s.heap.get? b = none → Sub s.heap h' := fun k x n c o e => x c o (by rintro rfl; rw [n] at e; cases e) (k c o e)
  have lens := pa_len hP
  have it₅ : h₅.IsListIter I M 0 := it₃.at fun o e => k₅ _ _ (k₄ _ _ e)
  have K₅ : Sub s.heap h₅ := Sub.trans k₃ (Sub.trans k₄ k₅)
  have W := Walks.list (prog := PySem.Challenge.rw_ho0001_01.row.prog) (w := w) (A := A) hh I M (Ne.symm MI).symm vs.toArray
  have loop : ∀ s₅ : Shared, s₅ = { s with heap := h₅, toks := s.toks + ([] : List (Str × Value)).length } →
      codeC (model PySem.Challenge.rw_ho0001_01.row.prog w) A (.compLoop (.ListComp elt [⟨.Name x px, iter, ifs, 0⟩] scope pos) 0 (.ref I) (.ref D) (compEnvC scope cl C env)) (cPost (model PySem.Challenge.rw_ho0001_01.row.prog w) A E use Q (.ref D) C) s₅ := by
    rintro s₅ rfl
    refine codeC_compLoop (fun n s' => ∃ h tk m i ys n', s' = { s with heap := h, toks := tk } ∧ Sub s.heap h ∧ h.Ns C m ∧ h.IsListIter I M i ∧ h.get? D = some (PySem.W.listOf ys.toArray n') ∧ Paired (Y.off I D C h) ys ((ps.take i).filter p) ∧ i ≤ ps.length ∧ n = ps.length + 1 - i) ?_ (ps.length + 1)
      ⟨h₅, _, _, 0, [], 0, rfl, K₅, hns₅, it₅, k₅ _ _ gD, .nil, Nat.zero_le _, rfl⟩
    rintro n _ ⟨h, tk, m, i, ys, n', rfl, K, ns, it, gD, hY, hi, rfl⟩
    have hylen : ys.length ≤ i := by
      rw [pa_len hY]
      exact Nat.le_trans (List.length_filter_le _ _) (by rw [List.length_take]; omega)
    cases hv : vs.toArray[i]? with
    | none =>
      rw [List.getElem?_toArray, List.getElem?_eq_none_iff] at hv
      refine wpAny_pyNext_list_end hh it ⟨_, K _ _ hM, rfl, nM, rfl⟩ (by rw [List.getElem?_toArray, List.getElem?_eq_none_iff]; exact hv) fun h' x' => ?_
      rw [List.take_of_length_le (by omega)] at hY
      refine fin D C m h' tk ys n' sD sC DC (old K x' sI) (x' _ _ (Ne.symm ID) gD) ?_ (ns.extBut x' (Ne.symm IC))
      exact ⟨I, pa_mono (fun y a q => q.ext (fun b o h1 _ _ e => x' b o h1 e)) hY⟩
    | some v =>
      rw [List.getElem?_toArray] at hv
      obtain ⟨a, ha, hPa⟩ := pa_get hP hv
      have hlt : i < ps.length := by
        by_cases q : i < ps.length
        · exact q
        · rw [List.getElem?_eq_none (by omega)] at ha; cases ha
      refine wpAny_pyNext_list_item it ⟨_, K _ _ hM, rfl, nM, rfl⟩ (by rw [List.getElem?_toArray]; exact hv) fun h₆ it₆ s₆ => ?_
      have x₆ := s₆.extBut
      refine wpAny_assign_Name (wpAny_storeName_local (env := compEnvC scope cl C env) (lookup_relabel_local hx) (ns.extBut x₆ (Ne.symm IC)) (fun h₇ ns₇ s₇ => ?_) (by simp [compEnvC, relabel, hkind]))
      have x₇ : Heap.ExtBut C h₆ h₇ := s₇.extBut
      have K₇ : Sub s.heap h₇ := old (old K x₆ sI) x₇ sC
      have it₇ := iter_ext it₆ x₇ IC
      have gD₇ := x₇ _ _ DC (x₆ _ _ (Ne.symm ID) gD)
      have hY₇ := pa_mono (fun y a q => q.ext (fun b o h1 _ h3 e => x₇ b o h3 (x₆ b o h1 e))) hY
      have hxv : (fun y => if y = x then some v else m y) x = some v := if_pos rfl
      generalize (fun y => if y = x then some v else m y) = m₇ at ns₇ hxv
      refine wpAny_mono (ht C m₇ v a hPa hxv _ _ ⟨K₇, ns₇⟩) (fun ok s₈ h₈ => ?_) fun _ _ x => x
      obtain ⟨rfl, h₈, t₈, rfl, k₈⟩ := h₈
      have htake : (ps.take (i + 1)).filter p = (ps.take i).filter p ++ (if p a then [a] else []) := by
        rw [List.take_add_one, ha, List.filter_append]
        cases h : p a <;> simp [h]
      have hY₈ := pa_mono (fun y a q => q.ext (fun b o _ _ _ e => k₈ b o e)) hY₇
      cases hpa : p a with
      | false =>
        rw [hpa, if_neg Bool.false_ne_true, List.append_nil] at htake
        rw [if_neg Bool.false_ne_true]
        exact ⟨ps.length + 1 - (i + 1), by omega, h₈, t₈, m₇, i + 1, ys, n', rfl, Sub.trans K₇ k₈, ns₇.keeps k₈, it₇.at fun o e => k₈ _ _ e, k₈ _ _ gD₇, by rw [htake]; exact hY₈, hlt, rfl⟩
      | true =>
        rw [hpa, if_pos rfl] at htake
        rw [if_pos rfl]
        refine wpC_mono (he C m₇ v a hPa hpa hxv _ _ ⟨Sub.trans K₇ k₈, ns₇.keeps k₈⟩) (fun y s₉ h₉ => ?_) fun _ _ x => x
        obtain ⟨hy, h₉, t₉, rfl, k₉⟩ := h₉
        have gD₉ := k₉ _ _ (k₈ _ _ gD₇)
        refine append_at gD₉ (fun h₁₀ s₁₀ gD₁₀ => ?_) (by rw [List.size_toArray, sizeLine_eq]; omega)
        have x₁₀ := s₁₀.extBut
        have K₉ : Sub s.heap h₉ := Sub.trans K₇ (Sub.trans k₈ k₉)
        refine ⟨ps.length + 1 - (i + 1), by omega, h₁₀, _, m₇, i + 1, ys ++ [y], n' + 1, rfl, old K₉ x₁₀ sD, ((ns₇.keeps k₈).keeps k₉).extBut x₁₀ (Ne.symm DC), iter_ext ((it₇.at fun o e => k₈ _ _ e).at fun o e => k₉ _ _ e) x₁₀ ID, by rw [gD₁₀]; simp [PySem.W.listOf], ?_, hlt, rfl⟩
        rw [htake]
        refine pa_append (pa_mono (fun y a q => q.ext (fun b o _ h2 _ e => x₁₀ b o h2 (k₉ b o e))) hY₈) (.cons ?_ .nil)
        rcases hy with q | ⟨T, o, e, gT, g, q⟩
        · exact .inl q
        · dsimp only at gT g
          have TI : T ≠ I := by
            obtain ⟨o', ho', _⟩ := it₇
            exact Ne.symm (ne_of_get (k₈ _ _ ho') gT)
          have TD : T ≠ D := Ne.symm (ne_of_get (k₈ _ _ gD₇) gT)
          have TC : T ≠ C := by
            obtain ⟨o', _, _, ho', _⟩ := ns₇
            exact Ne.symm (ne_of_get (k₈ _ _ ho') gT)
          exact .inr ⟨T, o, e, TI, TD, TC, x₁₀ _ _ TD g, q⟩
  exact codeC_compStart (loop _ rfl) (W.self 0 _ _ _ ⟨it₅, ⟨_, K₅ _ _ hM, rfl, nM, rfl⟩⟩ (loop _ rfl))
end
end Mine
end

section
open PySem PySem.W PyProof.Rows PySem.Calls
set_option maxRecDepth 100000
set_option linter.unusedVariables false
set_option maxHeartbeats 1000000
namespace Mine

/-- a new list of such items -/
def isLY {α : Type} (ref : Heap) (Y : IP α) (as : List α) : VP :=
  ⟨fun v h => ∃ (D : Addr) (ys : List Value) (n : Nat), v = .ref D ∧ ref.get? D = none ∧ h.get? D = some (PySem.W.listOf ys.toArray n) ∧ Paired (Y.at h) ys as,
   fun v h h' x k => by obtain ⟨D, ys, n, e, f, g, q⟩ := x; exact ⟨D, ys, n, e, f, k _ _ g, pa_mono (fun _ _ z => z.sub k) q⟩⟩
/-- told of the value alone -/
def IP.flat {α : Type} (H : α → Value → Prop) : IP α := ⟨H, fun _ _ => False⟩
theorem IP.flat_at {α : Type} {H : α → Value → Prop} {h : Heap} {y : Value} {a : α} (x : (IP.flat H).at h y a) : H a y := by
  rcases x with x | ⟨_, _, _, _, x⟩
  · exact x
  · exact x.elim
theorem IP.flat_off {α : Type} {H : α → Value → Prop} {I D C : Addr} {h : Heap} {y : Value} {a : α} (x : (IP.flat H).off I D C h y a) : H a y := IP.flat_at x.at
theorem Trs.mono {w : World} {A : Around} {env : Env} {ref ref' : Heap} {m : Str → Option Value} {ifs : List Expr} {b : Bool} (H : Trs w A env ref m ifs b) (k : Sub ref ref') : Trs w A env ref' m ifs b :=
  fun s E F => H s E ⟨Sub.trans k F.keep, F.ns⟩

section
variable {w : World} {A : Around} {E : Value → Shared → Prop} {s : Shared} {env : Env} {α : Type} {m : Str → Option Value} {ref h₀ : Heap}
theorem c_listcomp {elt iter : Expr} {x : Str} {px : Pos} {ifs : List Expr} {scope : Scope} {cl : List (Str × Addr)} {pos : Pos} {Q : Value → Shared → Prop} {ps : List α} {P : Value → α → Prop}
    (Y : IP α) (p : α → Bool) (hh : A.handled = none) (Hi : Ev w A env ref m iter (isO fun vs => Paired P vs ps)) (F : Fm ref env.locals m s.heap) (hz : ps.length ≤ 1000)
    (ht : ∀ C m₃ v a, P v a → m₃ x = some v → Trs w A (compEnvC scope cl C env) ref m₃ ifs (p a))
    (he : ∀ C m₃ v a, P v a → p a = true → m₃ x = some v → ∀ (s₃ : Shared) (E : Value → Shared → Prop), Fm ref C m₃ s₃.heap →
      wpC (model PySem.Challenge.rw_ho0001_01.row.prog w) A (eval elt (compEnvC scope cl C env)) (fun y s₄ => Y.new s₃.heap s₄.heap y a ∧ Keeps s₃ s₄) E s₃)
    (k : ∀ v s', Keeps s s' → (isLY ref Y (ps.filter p)).p v s'.heap → Q v s')
    (hclos : closureFor scope env = pure cl := by rfl) (hcell : ∀ y ∈ scope.names, y.2 ≠ .cell := by decide) (hkind : scope.kind = .function := by rfl)
    (hnames : ∀ y ∈ scope.names, y.2 = .local → scope.names.lookup y.1 = some .local := by decide) (hx : scope.names.lookup x = some .local := by rfl)
    (hs : ∀ x, foldedSetIterable iter env x = pure x := by intro _; rfl) :
    wpC (model PySem.Challenge.rw_ho0001_01.row.prog w) A (eval (.ListComp elt [⟨.Name x px, iter, ifs, 0⟩] scope pos) env) Q E s := by
  rw [eval_ListComp]
  refine wpC_comp (use := none) rfl hs hclos hkind hnames (wpC_any (Hi.use F fun v s₁ hv kk => ?_))
  obtain ⟨M, vs, nM, rfl, hM, hP⟩ := hv
  have F₁ := F.keeps (ksub kk)
  refine c_block Y p hh hcell hkind hx hM hP hz (fun C m₃ v a h1 h2 => (ht C m₃ v a h1 h2).mono F₁.keep) (fun C m₃ v a h1 h2 h3 s₃ E₃ F₃ => he C m₃ v a h1 h2 h3 s₃ E₃ ⟨Sub.trans F₁.keep F₃.keep, F₃.ns⟩) ?_
  rintro D C m' h' tk ys n' rD rC DC K gD ⟨I, hY⟩ ns
  refine ⟨m', ns, fun h'' s'' => ?_⟩
  obtain ⟨h₁, t₁, rfl, k₁⟩ := kk
  have K'' : Sub h₁ h'' := fun b o e => s''.extBut b o (by rintro rfl; rw [rC] at e; cases e) (K b o e)
  refine k _ _ (kof (Sub.trans k₁ K'')) ⟨D, ys, n', rfl, none_of_sub F₁.keep rD, s''.extBut _ _ DC gD, ?_⟩
  exact pa_mono (fun y a q => (q.ext (fun b o _ _ h3 e => s''.extBut b o h3 e)).at) hY
theorem c_asgcomp {name : Str} {fs : Scope} {L fa : Addr} {cd : Value} {fcl : List (Str × Addr)} {elt iter : Expr} {x y : Str} {px py : Pos} {ifs : List Expr} {scope : Scope} {cl : List (Str × Addr)} {pos spos : Pos} {Q : Flow → Shared → Prop} {ps : List α} {P : Value → α → Prop}
    (H : α → Value → Prop) (p : α → Bool) (hh : A.handled = none) (F : Fr h₀ L s.heap m) (Hi : Ev w A (envX name fs L fa cd fcl) s.heap m iter (isO fun vs => Paired P vs ps)) (hz : ps.length ≤ 1000)
    (ht : ∀ C m₃ v a, P v a → m₃ x = some v → Trs w A (compEnvC scope cl C (envX name fs L fa cd fcl)) s.heap m₃ ifs (p a))
    (he : ∀ C m₃ v a, P v a → p a = true → m₃ x = some v → ∀ (s₃ : Shared) (E : Value → Shared → Prop), Fm s.heap C m₃ s₃.heap →
      wpC (model PySem.Challenge.rw_ho0001_01.row.prog w) A (eval elt (compEnvC scope cl C (envX name fs L fa cd fcl))) (fun y s₄ => H a y ∧ Keeps s₃ s₄) E s₃)
    (k : ∀ D ys n' h' tk, s.heap.get? D = none → Heap.ExtBut L s.heap h' → Fr h₀ L h' (upd m y (.ref D)) → h'.get? D = some (PySem.W.listOf ys.toArray n') → Paired (fun v a => H a v) ys (ps.filter p) → Q .next { s with heap := h', toks := tk })
    (hsw : swapsWith (.ListComp elt [⟨.Name x px, iter, ifs, 0⟩] scope pos) (some (.Name y py)) spos.line (envX name fs L fa cd fcl) = pure true := by rfl)
    (hclos : closureFor scope (envX name fs L fa cd fcl) = pure cl := by rfl) (hcell : ∀ y ∈ scope.names, y.2 ≠ .cell := by decide) (hkind : scope.kind = .function := by rfl)
    (hnames : ∀ y ∈ scope.names, y.2 = .local → scope.names.lookup y.1 = some .local := by decide) (hx : scope.names.lookup x = some .local := by rfl)
    (hs : ∀ x, foldedSetIterable iter (envX name fs L fa cd fcl) x = pure x := by intro _; rfl)
    (hk : fs.kind = .function := by rfl) (hy : (envX name fs L fa cd fcl).kindOf y = some .local := by rfl) :
    wpC (model PySem.Challenge.rw_ho0001_01.row.prog w) A (exec (.Assign [.Name y py] (.ListComp elt [⟨.Name x px, iter, ifs, 0⟩] scope pos) spos) (envX name fs L fa cd fcl)) Q E s := by
  rw [exec_Assign_Name_used _ _ _ _ hsw]
  refine wpC_standAt (wpC_bind ?_)
  show wpC _ A (do let _ ← comprehension (.ListComp elt [⟨.Name x px, iter, ifs, 0⟩] scope pos) scope (envX name fs L fa cd fcl) _ (newList []) false (eval iter (envX name fs L fa cd fcl)) (some (assign (.Name y py) (envX name fs L fa cd fcl)))) _ _ s
  refine wpC_bind (wpC_mono (wpC_comp (use := some (assign (.Name y py) (envX name fs L fa cd fcl))) (Q := fun _ s' => Q .next s') rfl hs hclos hkind hnames (wpC_any (Hi.use ⟨Sub.refl _, F.ns⟩ fun v s₁ hv kk => ?_))) (fun _ s' hq => wpC_pure (wpC_pure hq)) fun _ _ e => e)
  obtain ⟨M, vs, nM, rfl, hM, hP⟩ := hv
  obtain ⟨h₁, t₁, rfl, k₁⟩ := kk
  have F₁ := F.keptAll k₁
  refine c_block (IP.flat H) p hh hcell hkind hx hM hP hz (fun C m₃ v a h1 h2 => (ht C m₃ v a h1 h2).mono k₁) (fun C m₃ v a h1 h2 h3 s₃ E₃ F₃ => wpC_mono (he C m₃ v a h1 h2 h3 s₃ E₃ ⟨Sub.trans k₁ F₃.keep, F₃.ns⟩) (fun _ _ z => ⟨.inl z.1, z.2⟩) fun _ _ z => z) ?_
  rintro D C m' h' tk ys n' rD rC DC K gD ⟨I, hY⟩ ns
  have lL : ∃ o, h₁.get? L = some o := by obtain ⟨oL, _, _, hL, _⟩ := F₁.ns; exact ⟨oL, hL⟩
  obtain ⟨oL, gL⟩ := lL
  have LD : L ≠ D := ne_of_get gL rD
  have LC : L ≠ C := ne_of_get gL rC
  show wpAny _ A (assign (.Name y py) (envX name fs L fa cd fcl) (.ref D)) _ _ _
  refine wpAny_assign_Name (storeL (F₁.keptAll K) (fun h₂ t₂ F₂ x₂ => ?_) hk hy)
  refine ⟨m', ns.extBut x₂ (Ne.symm LC), fun h₃ s₃ => ?_⟩
  have x₃ := s₃.extBut
  have nC : h₀.get? C = none := none_of_sub F₁.keep rC
  refine k D ys n' h₃ _ (none_of_sub k₁ rD) (fun b o hb e => x₃ b o (by rintro rfl; rw [k₁ _ _ e] at rC; cases rC) (x₂ b o hb (K b o (k₁ b o e)))) (fr_ext F₂ (Ne.symm LC) nC x₃) (x₃ _ _ DC (x₂ _ _ (Ne.symm LD) gD)) ?_
  exact pa_mono (fun v a q => IP.flat_off q) hY
end
end Mine
end

section
open PySem PySem.W PyProof.Rows PySem.Calls
set_option maxRecDepth 100000
set_option linter.unusedVariables false
set_option maxHeartbeats 1000000
namespace Mine

/-- a dict's keys, in the order in which they came -/
def addK (ks : List (Fin 24)) (q : Fin 24) : List (Fin 24) := if q ∈ ks then ks else ks ++ [q]
def DK (G : Fin 24 → Value → Prop) (kvs : List (List UInt8 × Value)) (ks : List (Fin 24)) : Prop := Paired (fun kv p => kv.1 = PB p ∧ G p kv.2) kvs ks
theorem DK.any {G : Fin 24 → Value → Prop} {kvs : List (List UInt8 × Value)} {ks : List (Fin 24)} (H : DK G kvs ks) (q : Fin 24) : (kvs.any fun kv => decide (kv.1 = PB q)) = decide (q ∈ ks) := by
  unfold DK at H
  induction H with
  | nil => simp
  | cons h1 _ ih =>
    rename_i kv p _ ks' _
    rw [List.any_cons, ih]
    rw [Bool.eq_iff_iff]
    simp only [Bool.or_eq_true, decide_eq_true_eq, List.mem_cons]
    constructor
    · rintro (h | h)
      · exact .inl (PB_inj _ _ (h.symm.trans h1.1))
      · exact .inr h
    · rintro (h | h)
      · exact .inl (h ▸ h1.1)
      · exact .inr h
theorem DK.set {G : Fin 24 → Value → Prop} {kvs : List (List UInt8 × Value)} {ks : List (Fin 24)} {q : Fin 24} {v : Value} (H : DK G kvs ks) (hv : G q v) : DK G (stored kvs (PB q) v) (addK ks q) := by
  unfold stored addK
  have e := H.any q
  by_cases hq : q ∈ ks
  · rw [decide_eq_true hq] at e
    rw [if_pos e, if_pos hq]
    unfold DK at H ⊢
    clear e hq
    induction H with
    | nil => exact .nil
    | cons h1 _ ih =>
      refine .cons ?_ ih
      rename_i kv p _ _ _
      dsimp only
      by_cases hk : kv.1 = PB q
      · rw [if_pos hk]
        have : p = q := PB_inj _ _ (h1.1.symm.trans hk)
        subst this
        exact ⟨h1.1, hv⟩
      · rw [if_neg hk]; exact h1
  · rw [decide_eq_false hq] at e
    rw [if_neg (by rw [e]; simp), if_neg hq]
    exact pa_append H (.cons ⟨rfl, hv⟩ .nil)
theorem DK.get {G : Fin 24 → Value → Prop} {kvs : List (List UInt8 × Value)} {ks : List (Fin 24)} {q : Fin 24} (H : DK G kvs ks) (hq : q ∈ ks) : ∃ v, valueAt kvs (PB q) = some v ∧ G q v := by
  unfold DK at H
  unfold valueAt
  induction H with
  | nil => cases hq
  | cons h1 _ ih =>
    rename_i kv p _ _ _
    by_cases hk : kv.1 = PB q
    · have : p = q := PB_inj _ _ (h1.1.symm.trans hk)
      subst this
      exact ⟨kv.2, by simp [List.find?_cons, hk], h1.2⟩
    · rw [List.find?_cons]
      simp only [hk, decide_false]
      rcases List.mem_cons.mp hq with e | hq
      · exact absurd (e ▸ h1.1) hk
      · exact ih hq
theorem addK_len (ks : List (Fin 24)) (q : Fin 24) : (addK ks q).length ≤ ks.length + 1 := by
  unfold addK; split
  · omega
  · simp

theorem dl_entry : entryFor table "dict.update.loop" = some Builtin.«dict.update.loop» := entryFor_of_tree (by kernel_rfl)
theorem dl_plain : plainId "dict.update.loop" = true := by decide +kernel
theorem no_keys_list : typeLookup (.type "list") "keys" = pure none := by rw [typeLookup_type, builtinLookup_eq_fast]; kernel_rfl

section
variable {prog : Program} {w : World} {A : Around} {E : Value → Shared → Prop} {s : Shared}
theorem no_keys {a : Addr} {xs : Array Value} {n : Nat} {Q : Option Value → Shared → Prop} (ha : s.heap.get? a = some (PySem.W.listOf xs n)) (hh : A.handled = none)
    (h : ∀ h' tk, Sub s.heap h' → Q none { s with heap := h', toks := tk }) : wpAny (model prog w) A (getAttr? (.ref a) "keys") Q E s := by
  obtain ⟨hp, g, d, tk, os⟩ := s
  have hT : ∀ tk', (⟨hp, g, d, tk', os⟩ : Shared).TypeIs (.ref a) "list" := fun _ => ⟨_, ha, rfl⟩
  have f1 := sub_AttributeError
  have f3 := PySem.F.slot_list_getattribute.lookup
  have f4 := PySem.F.slot_list_getattribute.bind (.ref a)
  have f5 := am_list_getattr_none
  unfold getAttr? getAttrBy? getAttrBy
  repeat (any_goals (first | assumption | exact hT _ | ((with_reducible show wpAny _ _ (call (Value.builtin "list.__getattribute__") _ _) _ _ _); refine call_meets PySem.F.slot_list_getattribute (hT _) am_entry_list_getattribute (PySem.F.args_list_getattribute_2 _ _) (meets_getattribute_miss_list a xs n #[] _ _ no_keys_list (by decide +kernel) (by rw [sizeLine_eq]; decide)) ⟨ha, hh, fun h' tk' e hx' => ?_⟩) | wp_step))
  obtain ⟨t', u', he⟩ := hx'.there
  show wpAny _ _ (getattributeRaised _ _ _ _ _ _ _) _ _ _
  unfold getattributeRaised
  repeat (any_goals (first | assumption | wp_step))
  exact h _ _ hx'.keeps
/-- a pair, as an object -/
def TG (G : Fin 24 → Value → Prop) (q : Fin 24) (o : Obj) : Prop := ∃ a b, o = { cls := .type "tuple", data := .seq #[a, b] } ∧ vP a q ∧ G q b
theorem dict_loop {R : Result → Shared → Prop} {G : Fin 24 → Value → Prop} {h₀ : Heap} {d I M : Addr} {vs : List Value} {nM : Nat} {qs : List (Fin 24)} (hh : A.handled = none)
    (hM : h₀.get? M = some (PySem.W.listOf vs.toArray nM)) (hP : Paired (fun y q => ∃ T o, y = .ref T ∧ h₀.get? T = some o ∧ TG G q o) vs qs) (hd : h₀.get? d = none) (hI : h₀.get? I = none) (dI : d ≠ I) (hz : qs.length ≤ 1000) :
    ∀ (k i : Nat) (kvs : List (List UInt8 × Value)) (s : Shared), qs.length - i = k → i ≤ qs.length → Sub h₀ s.heap → s.heap.IsListIter I M i → s.heap.DictOf (bytesKind prog w) d kvs → DK G kvs ((qs.take i).foldl addK []) → kvs.length ≤ i →
      (∀ h' tk kvs', Sub h₀ h' → h'.DictOf (bytesKind prog w) d kvs' → DK G kvs' (qs.foldl addK []) → R (.ok (.ret .none)) { s with heap := h', toks := tk }) →
      codeAny (model prog w) A (.builtin "dict.update.loop" ⟨[.ref d, .ref I, rawInt i, .none], []⟩) R s := by
  have lens := pa_len hP
  intro k
  induction k with
  | zero =>
    intro i kvs s hk hi K it D H hl hR
    have : i = qs.length := by omega
    subst this
    refine codeAny_builtin dl_entry ?_
    rw [Around.under_plainId dl_plain _]
    show wpAny _ A.in1 (pyNext (.ref I) >>= _) _ _ s
    refine wpAny_bind (wpAny_pyNext_list_end hh it ⟨_, K _ _ hM, rfl, nM, rfl⟩ (by rw [List.getElem?_toArray, List.getElem?_eq_none_iff]; omega) fun h' x' => ?_)
    rw [List.take_length] at H
    show wpAny _ _ (Builtin.Dict.addKeywords d [] >>= _) _ _ _
    refine wpAny_bind (wpAny_pure (wpAny_pure ?_))
    exact hR h' _ kvs (fun b o e => x' b o (by rintro rfl; rw [hI] at e; cases e) (K b o e)) (D.extBut x' dI) H
  | succ k ih =>
    intro i kvs s hk hi K it D H hl hR
    have hlt : i < qs.length := by omega
    obtain ⟨v, hv⟩ : ∃ v, vs[i]? = some v := ⟨vs[i]'(by omega), List.getElem?_eq_getElem (by omega)⟩
    obtain ⟨q, hq, T, o, rfl, gT, a, b, rfl, ⟨ta, rfl⟩, hb⟩ := pa_get hP hv
    refine codeAny_builtin dl_entry ?_
    rw [Around.under_plainId dl_plain _]
    show wpAny _ A.in1 (pyNext (.ref I) >>= _) _ _ s
    refine wpAny_bind (wpAny_pyNext_list_item it ⟨_, K _ _ hM, rfl, nM, rfl⟩ (by rw [List.getElem?_toArray]; exact hv) fun h' it' s' => ?_)
    have x' := s'.extBut
    have K' : Sub h₀ h' := fun b o e => x' b o (by rintro rfl; rw [hI] at e; cases e) (K b o e)
    have D' := D.extBut x' dI
    refine wpAny_bind (wpAny_holding (wpAny_bind (wpAny_tryCatch ?_)))
    unfold Builtin.Dict.pairItems
    refine wpAny_bind (wpAny_typeOf (T := "tuple") ⟨_, K' _ _ gT, rfl⟩ ?_)
    refine bm_if_true (by decide) ?_
    refine wpAny_bind (wpAny_seqItems (K' _ _ gT) rfl ?_)
    refine wpAny_pure ?_
    dsimp only [Option.getD]
    refine wpAny_holding (wpAny_dictSet_pairs (knd := bytesKind prog w) (k := PB q) (by simp [bytesKind, isBytes]) D' (fun h₂ D₂ s₂ => ?_) (by rw [sizeLine_eq]; omega))
    have x₂ := s₂.extBut
    have K₂ : Sub h₀ h₂ := fun b o e => x₂ b o (by rintro rfl; rw [hd] at e; cases e) (K' b o e)
    refine wpAny_pure ⟨plainId_quiet dl_plain _, ?_⟩
    refine ih (i + 1) _ { s with heap := h₂, toks := s.toks + 1 } (by omega) hlt K₂ (iter_ext it' x₂ (Ne.symm dI)) D₂ ?_ ?_ hR
    · rw [List.take_add_one, hq, List.foldl_append]
      exact H.set hb
    · unfold stored
      split
      · rw [List.length_map]; omega
      · rw [List.length_append]; simp; omega
/-- a dict of pairs -/
def isD (prog : Program) (w : World) (ref : Heap) (G : Fin 24 → Value → Prop) (ks : List (Fin 24)) : VP :=
  ⟨fun v h => ∃ d kvs, v = .ref d ∧ ref.get? d = none ∧ h.DictOf (bytesKind prog w) d kvs ∧ DK G kvs ks ∧ (d == sysModules) = false,
   fun v h h' x k => by obtain ⟨d, kvs, e, f, g, q⟩ := x; exact ⟨d, kvs, e, f, Heap.DictOf.keep g k, q⟩⟩
def pairY (G : Fin 24 → Value → Prop) : IP (Fin 24) := ⟨fun _ _ => False, TG G⟩
end
section
variable {w : World} {A : Around} {E : Value → Shared → Prop} {s : Shared} {env : Env} {ref : Heap}
theorem Sta.big {h : Heap} (S : Sta w h) : sysModules < h.objs.size := by
  obtain ⟨_, _, _, _, T⟩ := S.T
  obtain ⟨o, _, _, ho, _⟩ := T.g
  exact Nat.lt_trans (by decide : sysModules < mainGlobals) (Heap.lt_size ho)
theorem cl_dict {G : Fin 24 → Value → Prop} {qs : List (Fin 24)} {ref₁ : Heap} {l : Value} (hh : A.handled = none) (hl : (isLY ref₁ (pairY G) qs).p l s.heap) (hz : qs.length ≤ 1000) (k : Sub ref s.heap) (S : Sta w s.heap) :
    Cl w A (.type "dict") [l] (isD PySem.Challenge.rw_ho0001_01.row.prog w ref G (qs.foldl addK [])) s := fun E => by
  obtain ⟨M, vs, nM, rfl, _, hM, hP⟩ := hl
  refine callType_codes (Q₁ := fun obj s₁ => obj = .ref s.heap.objs.size ∧ s₁ = { s with heap := s.heap.push { cls := .type "dict", data := .dict #[] } }) PySem.F.kt_called_dict (PySem.F.kt_typeCall_dict_1 _) PySem.F.entry_dict_init (kt_code_dict_new _ ⟨rfl, rfl⟩) ?_
  rintro obj s₁ ⟨rfl, rfl⟩
  obtain ⟨H, hH⟩ : ∃ H, H = s.heap.push { cls := .type "dict", data := .dict #[] } := ⟨_, rfl⟩
  have kH : Sub s.heap H := by subst hH; exact fun b o e => Heap.get?_push_of_some _ e
  have D : H.DictOf (bytesKind PySem.Challenge.rw_ho0001_01.row.prog w) s.heap.objs.size [] := by subst hH; exact Heap.DictOf.new s.heap
  rw [← hH]
  have rd : s.heap.get? s.heap.objs.size = none := new_none _
  refine ⟨Heap.DictOf.typeIs (s := { s with heap := H }) D, PySem.F.args_dict_init_2 _ _, ?_⟩
  have hTl : ({ s with heap := H } : Shared).TypeIs (.ref M) "list" := ⟨_, kH _ _ hM, rfl⟩
  unfold Builtin.«dict.__init__»
  refine wpAny_bind ?_
  unfold Builtin.Dict.selfAndRest
  refine wpAny_bind (wpAny_notOrdered_dict (Heap.DictOf.typeIs (s := { s with heap := H }) D) ?_)
  show wpAny _ _ (pure (s.heap.objs.size, [Value.ref M])) _ _ _
  refine wpAny_pure ?_
  show wpAny _ _ (Builtin.Dict.updateFrom "dict.__init__" s.heap.objs.size (.ref M) [] .none) _ _ _
  unfold Builtin.Dict.updateFrom
  refine wpAny_bind (wpAny_typeOf hTl ?_)
  refine bm_if_true (by decide) ?_
  refine wpAny_bind (no_keys (kH _ _ hM) hh fun h₂ t₂ k₂ => ?_)
  refine bm_if_true rfl ?_
  refine wpAny_bind (wpAny_rule ?_)
  refine wpAny_bind (pyiterL (k₂ _ _ (kH _ _ hM)) fun I h₃ k₃ rI it₃ => ?_)
  have K₂ : Sub s.heap h₂ := Sub.trans kH k₂
  have gd : ∃ o, h₂.get? s.heap.objs.size = some o := by obtain ⟨o, _, _, ho, _⟩ := Heap.DictOf.keep D k₂; exact ⟨o, ho⟩
  obtain ⟨od, gd⟩ := gd
  have dI : s.heap.objs.size ≠ I := ne_of_get gd rI
  refine wpAny_pure ⟨plainId_quiet dl_plain _, ?_⟩
  have loop := dict_loop (prog := PySem.Challenge.rw_ho0001_01.row.prog) (w := w) (A := A.in1) (R := wants (fun r s₂ => r = .none ∧ ((isD PySem.Challenge.rw_ho0001_01.row.prog w ref G (qs.foldl addK [])).p (.ref s.heap.objs.size) s₂.heap ∧ Keeps s s₂)) E) (G := G) (h₀ := s.heap) (d := s.heap.objs.size) (I := I) hh hM
    (pa_mono (fun y q z => by rcases z with z | z; exact z.elim; exact z) hP) rd (none_of_sub K₂ rI) dI hz qs.length 0 [] { s with heap := h₃, toks := t₂ } (by simp) (Nat.zero_le _) (Sub.trans K₂ k₃) it₃ (Heap.DictOf.keep (Heap.DictOf.keep D k₂) k₃) .nil (Nat.zero_le _)
    (fun h' tk kvs' K D' H' => ⟨rfl, ⟨_, kvs', rfl, none_of_sub k rd, D', H', by simpa using Nat.ne_of_gt S.big⟩, kof K⟩)
  exact loop
end
end Mine
end

section
open PySem PySem.W PyProof.Rows PySem.Calls
set_option maxRecDepth 100000
set_option linter.unusedVariables false
set_option maxHeartbeats 1000000
namespace Mine

section
variable {w : World} {A : Around} {E : Value → Shared → Prop} {s : Shared} {env : Env} {ref : Heap}
/-- an item of a dict -/
theorem sub_dict {G : Fin 24 → Value → Prop} {ks : List (Fin 24)} {ref₁ : Heap} {a b : Value} {p : Fin 24} {ve ie : Expr} (ha : (isD PySem.Challenge.rw_ho0001_01.row.prog w ref₁ G ks).p a s.heap) (hb : vP b p) (hp : p ∈ ks)
    (hs : ∀ (o i : Value), subscripted ie false o i = operate [o, i] (getItem o i) := by intro _ _; with_unfolding_all rfl) :
    wpAny (model PySem.Challenge.rw_ho0001_01.row.prog w) A (subscriptTail ve ie a b) (fun v s' => G p v ∧ Keeps s s') E s := by
  obtain ⟨d, kvs, rfl, _, D, H, _⟩ := ha
  obtain ⟨t, rfl⟩ := hb
  obtain ⟨v, hv, hG⟩ := H.get hp
  refine tail_any D.typeIs slot_dict_getitem.lookup (wpAny_getItem_of (knd := bytesKind PySem.Challenge.rw_ho0001_01.row.prog w) (k := PB p) (by simp [bytesKind, isBytes]) D.mapOf hv ⟨hG, kof (Sub.refl _)⟩) (hs _ _)
/-- a dict's keys, sorted -/
theorem cl_sortedD {G : Fin 24 → Value → Prop} {ks qs : List (Fin 24)} {ref₁ : Heap} {l : Value} (hh : A.handled = none) (hl : (isD PySem.Challenge.rw_ho0001_01.row.prog w ref₁ G ks).p l s.heap) (hz : ks.length < 64) (k : Sub ref s.heap) (hp : qs.Perm ks) (ho : qs.Pairwise (· ≤ ·)) :
    Cl w A (.builtin "sorted") [l] (isL ref fun vs => PA vs qs) s := fun E => by
  obtain ⟨d, kvs, rfl, _, D, H, lo⟩ := hl
  obtain ⟨ep, hat⟩ := D.dictAt
  have hkl : kvs.length = ks.length := pa_len H
  refine call_function_entry kind_sorted plain_sorted entry_sorted (args_sorted1 _) ?_
  unfold Builtin.«sorted»
  refine wpAny_bind (m := checkCount "sorted" 1 1 _) (wpAny_pure ?_)
  refine wpAny_bind (kdu_collect (A := A.in1) (kdl_dict (knd := bytesKind PySem.Challenge.rw_ho0001_01.row.prog w) (kvs := kvs) (ep := ep) lo) hh hat (by rw [hkl, sizeLine_eq]; omega) fun h' tk acc hk hacc => ?_)
  have hlen : acc.toList.length = ks.length := by rw [Array.length_toList, hacc.1, hkl]
  have hPA : PA acc.toList ks := by
    refine pa_of hlen fun i a p ha hp' => ?_
    obtain ⟨k', x, hx, hk'⟩ := hacc.2 i a (by rw [← Array.getElem?_toList]; exact ha)
    obtain ⟨kv, hkv, e1, _⟩ := pa_get' H hp'
    rw [hx] at hkv
    cases hkv
    obtain ⟨t, rfl⟩ := isBytes_shape hk'
    exact ⟨t, by rw [show k' = PB p from e1]⟩
  refine wpAny_bind (wpAny_newList ?_ (by rw [hlen, sizeLine_eq]; omega))
  obtain ⟨h₂, e₂⟩ : ∃ H, H = h'.push { cls := .type "list", data := .seq acc.toList.toArray } := ⟨_, rfl⟩
  have k₂ : Sub h' h₂ := by subst e₂; exact fun b o e => Heap.get?_push_of_some _ e
  have g₂ : h₂.get? h'.objs.size = some (seqObj "list" acc.toList.toArray 0) := by subst e₂; exact Heap.get?_push_size _ rfl
  dsimp only
  rw [← e₂]
  have r₂ : h'.get? h'.objs.size = none := new_none _
  generalize h'.objs.size = B at g₂ r₂ ⊢
  refine wpAny_bind (wpAny_holding (wpAny_call_entry slot_list_sort ⟨_, g₂, rfl⟩ entry_list_sort (list_sort_treeK (s := { s with heap := h₂, toks := tk }) pKind_oneLt g₂ (fun p hp => ?_) (fun v₁ v₂ rest e => keyKind_P (by rw [← e]; exact hPA)) (by rw [hlen]; exact hz) fun st' hp' hs => ⟨_, rfl, ?_⟩) (args_list_sort _)))
  · rw [pairsOf_toList] at hp
    obtain ⟨q, hq⟩ := hPA.mem _ (mem_zip_self hp).2
    exact ⟨q, pOf_is hq⟩
  · obtain ⟨ps', h1, h2, h3⟩ := sorted_out_P hPA hp' hs
    obtain ⟨e, he⟩ := sortedHeap_at (h := h₂) (out := (arrOf st').map (·.2)) g₂
    have : ps' = qs := sorted_eq (h2.trans hp.symm) h3 ho
    subst this
    refine wpAny_pure ⟨_, rfl, ⟨B, ((arrOf st').map (·.2)).toList, e, rfl, none_of_sub (Sub.trans k hk) r₂, by rw [Array.toArray_toList]; exact he, h1⟩, kof fun b o ho' => ?_⟩
    have hb : b ≠ B := ne_of_get (hk _ _ ho') r₂
    have := k₂ _ _ (hk _ _ ho')
    exact (sortedHeap_old hb (Heap.lt_size this)).trans this
end
end Mine
end

section
open PySem PySem.W PyProof.Rows PySem.Calls
set_option maxRecDepth 100000
set_option linter.unusedVariables false
namespace Mine

def mulT (p q : Nat) : Nat := Nat.mod (Nat.shiftRight mulN (Nat.mul 5 (Nat.add (Nat.mul 24 p) q))) 32
def hasB (m a : Nat) : Bool := Nat.beq (Nat.mod (Nat.shiftRight m a) 2) 1
def stepM (x : Nat) (st : List Nat × Nat) (g : Nat) : List Nat × Nat := bif hasB st.2 (mulT x g) then st else (st.1 ++ [mulT x g], Nat.lor st.2 (Nat.pow 2 (mulT x g)))
def runM (p q : Nat) : Nat → List Nat → Nat → Nat
  | 0, _, m => m
  | _ + 1, [], m => m
  | f + 1, x :: r, m =>
    let a := mulT x p
    bif hasB m a then
      let b := mulT x q
      bif hasB m b then runM p q f r m else runM p q f (r ++ [b]) (Nat.lor m (Nat.pow 2 b))
    else
      let m' := Nat.lor m (Nat.pow 2 a)
      let b := mulT x q
      bif hasB m' b then runM p q f (r ++ [a]) m' else runM p q f (r ++ [a] ++ [b]) (Nat.lor m' (Nat.pow 2 b))
def maskN (p q : Nat) : Nat := runM p q 31 [0] 1
/-- the orders that a mask tells -/
def lst (m : Nat) : List (Fin 24) := (List.finRange 24).filter fun x => hasB m x.val

theorem mulT_eq : ∀ x q : Fin 24, mulT x.val q.val = (mul x q).val := by decide +kernel
theorem hasB_eq (m a : Nat) : hasB m a = m.testBit a := by
  unfold hasB
  show Nat.beq ((m >>> a) % 2) 1 = _
  rw [Nat.testBit_eq_decide_div_mod_eq, Nat.shiftRight_eq_div_pow]
  rw [Bool.eq_iff_iff, decide_eq_true_eq]
  exact ⟨Nat.eq_of_beq_eq_true, fun h => by rw [h]; rfl⟩
theorem hasB_lor (m a x : Nat) : hasB (Nat.lor m (Nat.pow 2 a)) x = (hasB m x || decide (a = x)) := by
  rw [hasB_eq, hasB_eq]
  show (m ||| 2 ^ a).testBit x = _
  rw [Nat.testBit_or, Nat.testBit_two_pow]
theorem strict_ext : ∀ {l₁ l₂ : List (Fin 24)}, l₁.Pairwise (· < ·) → l₂.Pairwise (· < ·) → (∀ x, x ∈ l₁ ↔ x ∈ l₂) → l₁ = l₂
  | [], [], _, _, _ => rfl
  | [], b :: t, _, _, h => by have := (h b).mpr (.head _); cases this
  | a :: r, [], _, _, h => by have := (h a).mp (.head _); cases this
  | a :: r, b :: t, h1, h2, h => by
    obtain ⟨p1, q1⟩ := List.pairwise_cons.mp h1
    obtain ⟨p2, q2⟩ := List.pairwise_cons.mp h2
    have hab : a = b := by
      rcases List.mem_cons.mp ((h a).mp (.head _)) with e | e
      · exact e
      · rcases List.mem_cons.mp ((h b).mpr (.head _)) with e' | e'
        · exact e'.symm
        · have := p1 _ e'; have := p2 _ e; omega
    subst hab
    rw [strict_ext q1 q2 fun x => ?_]
    constructor
    · intro hx
      rcases List.mem_cons.mp ((h x).mp (.tail _ hx)) with e | e
      · have := p1 _ hx; subst e; omega
      · exact e
    · intro hx
      rcases List.mem_cons.mp ((h x).mpr (.tail _ hx)) with e | e
      · have := p2 _ hx; subst e; omega
      · exact e
theorem strict_len : ∀ {l : List (Fin 24)} {n : Nat}, l.Pairwise (· < ·) → (∀ x ∈ l, n ≤ x.val) → l.length + n ≤ 24 ∨ l = []
  | [], n, _, _ => .inr rfl
  | a :: r, n, h, hn => by
    obtain ⟨h1, h2⟩ := List.pairwise_cons.mp h
    have ha := hn a (.head _)
    rcases strict_len (n := a.val + 1) h2 (fun x hx => h1 x hx) with e | e
    · left; rw [List.length_cons]; omega
    · left; subst e; rw [List.length_cons, List.length_nil]; omega
theorem strict_le {l : List (Fin 24)} (h : l.Pairwise (· < ·)) : l.length ≤ 24 := by
  rcases strict_len (n := 0) h (fun _ _ => Nat.zero_le _) with e | e
  · omega
  · subst e; simp
theorem insP_strict {ps : List (Fin 24)} (ho : ps.Pairwise (· < ·)) {q : Fin 24} (hq : q ∉ ps) : (insP ps q).Pairwise (· < ·) := by
  have hle : ps.Pairwise (· ≤ ·) := ho.imp fun h => Nat.le_of_lt h
  unfold insP
  have h1 : ∀ x ∈ ps.take (rank ps q), x < q := fun x hx => by
    obtain ⟨i, hi⟩ := List.mem_iff_getElem?.mp hx
    rw [List.getElem?_take] at hi
    split at hi
    · exact (rank_at hle hi).mpr ‹_›
    · cases hi
  have h2 : ∀ x ∈ ps.drop (rank ps q), q < x := fun x hx => by
    have hx' : x ∈ ps := List.mem_of_mem_drop hx
    obtain ⟨i, hi⟩ := List.mem_iff_getElem?.mp hx
    rw [List.getElem?_drop] at hi
    have := rank_at hle (q := q) hi
    have h3 : ¬ x < q := fun h => absurd (this.mp h) (by omega)
    have h4 : x ≠ q := fun e => hq (e ▸ hx')
    omega
  rw [List.pairwise_append]
  refine ⟨ho.sublist (List.take_sublist _ _), List.pairwise_cons.mpr ⟨h2, ho.sublist (List.drop_sublist _ _)⟩, fun a ha b hb => ?_⟩
  have := h1 a ha
  rcases List.mem_cons.mp hb with rfl | hb
  · exact this
  · have := h2 b hb; omega
theorem insP_mem (ps : List (Fin 24)) (q x : Fin 24) : x ∈ insP ps q ↔ x ∈ ps ∨ x = q := by
  unfold insP
  have e := List.take_append_drop (rank ps q) ps
  rw [List.mem_append, List.mem_cons]
  have : x ∈ ps ↔ x ∈ ps.take (rank ps q) ∨ x ∈ ps.drop (rank ps q) := by
    conv => lhs; rw [← e]
    exact List.mem_append
  rw [this]
  constructor
  · rintro (h | h | h)
    · exact .inl (.inl h)
    · exact .inr h
    · exact .inl (.inr h)
  · rintro ((h | h) | h)
    · exact .inl h
    · exact .inr (.inr h)
    · exact .inr (.inl h)

structure Rel (st : List (Fin 24) × List (Fin 24)) (i : Nat) (r : List Nat) (m : Nat) : Prop where
  srt : st.1.Pairwise (· < ·)
  mem : ∀ x : Fin 24, x ∈ st.1 ↔ hasB m x.val = true
  pend : (st.2.drop i).map (·.val) = r
  at_ : i ≤ st.2.length
theorem Rel.step {st : List (Fin 24) × List (Fin 24)} {i : Nat} {r : List Nat} {m : Nat} (H : Rel st i r m) (x g : Fin 24) :
    Rel (step1 x st g) i (stepM x.val (r, m) g.val).1 (stepM x.val (r, m) g.val).2 := by
  unfold step1 stepM
  rw [mulT_eq]
  have hlen := strict_le H.srt
  by_cases hm : mul x g ∈ st.1
  · have e := (H.mem _).mp hm
    rw [decide_eq_true hm, if_neg (by simp)]
    dsimp only
    rw [e]
    exact H
  · have e : hasB m (mul x g).val = false := by
      cases h : hasB m (mul x g).val with
      | false => rfl
      | true => exact absurd ((H.mem _).mpr h) hm
    rw [decide_eq_false hm, decide_eq_true (by omega : st.1.length < 30), if_pos (by rfl)]
    dsimp only
    rw [e]
    refine ⟨insP_strict H.srt hm, fun y => ?_, ?_, ?_⟩
    · rw [insP_mem, H.mem y]
      show _ ↔ hasB (Nat.lor m (Nat.pow 2 (mul x g).val)) y.val = true
      rw [hasB_lor, Bool.or_eq_true, decide_eq_true_eq]
      constructor
      · rintro (h | h)
        · exact .inl h
        · exact .inr (h ▸ rfl)
      · rintro (h | h)
        · exact .inl h
        · exact .inr (Fin.ext h.symm)
    · show ((st.2 ++ [mul x g]).drop i).map (·.val) = r ++ [(mul x g).val]
      rw [List.drop_append_of_le_length H.at_, List.map_append, H.pend]; rfl
    · show i ≤ (st.2 ++ [mul x g]).length
      rw [List.length_append]; have := H.at_; omega
theorem runM_step (p q f x : Nat) (r : List Nat) (m : Nat) : runM p q (f + 1) (x :: r) m = runM p q f (stepM x (stepM x (r, m) p) q).1 (stepM x (stepM x (r, m) p) q).2 := by
  rw [runM]
  unfold stepM
  dsimp only
  cases h1 : hasB m (mulT x p) <;> dsimp only [cond]
  · cases h2 : hasB (m.lor (Nat.pow 2 (mulT x p))) (mulT x q) <;> dsimp only [cond]
  · cases h2 : hasB m (mulT x q) <;> dsimp only [cond]
theorem Rel.run (p q : Fin 24) : ∀ (f i : Nat) (st : List (Fin 24) × List (Fin 24)) (r : List Nat) (m : Nat), Rel st i r m →
    (runG [p, q] f i st).Pairwise (· < ·) ∧ ∀ x : Fin 24, x ∈ runG [p, q] f i st ↔ hasB (runM p.val q.val f r m) x.val = true
  | 0, i, st, r, m, H => ⟨H.srt, H.mem⟩
  | f + 1, i, st, r, m, H => by
    unfold runG
    cases hx : st.2[i]? with
    | none =>
      have : r = [] := by
        rw [← H.pend, List.drop_eq_nil_of_le (by rw [List.getElem?_eq_none_iff] at hx; exact hx)]; rfl
      subst this
      exact ⟨H.srt, H.mem⟩
    | some x =>
      dsimp only
      have hlt : i < st.2.length := by
        by_cases h : i < st.2.length
        · exact h
        · rw [List.getElem?_eq_none (by omega)] at hx; cases hx
      have hr : r = x.val :: (st.2.drop (i + 1)).map (·.val) := by
        rw [← H.pend, List.drop_eq_getElem_cons hlt]
        rw [List.getElem?_eq_getElem hlt] at hx
        cases hx
        rfl
      subst hr
      have H' : Rel st (i + 1) ((st.2.drop (i + 1)).map (·.val)) m := ⟨H.srt, H.mem, rfl, hlt⟩
      rw [runM_step]
      exact Rel.run p q f (i + 1) _ _ _ ((H'.step x p).step x q)
theorem lst_strict (m : Nat) : (lst m).Pairwise (· < ·) := by
  have : (List.finRange 24).Pairwise (· < ·) := by decide +kernel
  exact this.sublist List.filter_sublist
theorem made_mask (p q : Fin 24) : made [p, q] = lst (maskN p.val q.val) := by
  have H := Rel.run p q 31 0 ([0], [0]) [0] 1 ⟨by decide, by decide +kernel, rfl, by decide⟩
  refine strict_ext H.1 (lst_strict _) fun x => (H.2 x).trans ?_
  unfold lst
  rw [List.mem_filter]
  exact ⟨fun h => ⟨List.mem_finRange x, h⟩, fun h => h.2⟩
end Mine
end

section
open PySem PySem.W PyProof.Rows PySem.Calls
set_option maxRecDepth 100000
set_option linter.unusedVariables false
namespace Mine

/-- x, turned by what is made: each once, as they come -/
def cjs (l : List (Fin 24)) (x : Fin 24) : List (Fin 24) := (l.map fun b => mul (mul (inv b) x) b).foldl addK []
/-- its kind's orders, in order -/
def cls (l : List (Fin 24)) (x : Fin 24) : List (Fin 24) := (List.finRange 24).filter fun y => decide (y ∈ cjs l x)
/-- how many of each kind -/
def kindsOf (l : List (Fin 24)) : Nat → List (Fin 24) → List Nat
  | 0, _ => []
  | _ + 1, [] => []
  | f + 1, x :: r => (cls l x).length :: kindsOf l f ((x :: r).filter fun y => !decide (y ∈ cls l x))
/-- those that mind no other -/
def centre (l : List (Fin 24)) : List (Fin 24) := l.filter fun x => decide ((l.filter fun b => !decide (mul x b = mul b x)) = [])
def turnP (p : Fin 24) : Fin 24 := mul (revP p) 23

structure Facts (l : List (Fin 24)) : Prop where
  zero : 0 ∈ l
  div : 24 % l.length = 0
  frob : ∀ n : Fin 13, 1 ≤ n.val → (l.filter fun p => decide (n.val % tm p = 0)).length % Nat.gcd n.val l.length = 0
  cauchy : ∀ r ∈ ([2, 3] : List Nat), decide (l.length % r = 0) = !decide ((l.filter fun p => decide (tm p = r)) = [])
  sylow : l.length % 3 = 0 → (l.filter fun p => decide (tm p = 3)).length / 2 % 3 = 1
  inv : ∀ p ∈ l, l.length % tm p = 0 ∧ Mine.inv p ∈ l
  sum : (kindsOf l l.length l).sum = l.length
  parts : ∀ k ∈ kindsOf l l.length l, l.length % k = 0
  ones : (kindsOf l l.length l).count 1 = (centre l).length
def factsB (l : List (Fin 24)) : Bool :=
  decide (0 ∈ l) && decide (24 % l.length = 0) && decide (∀ n : Fin 13, 1 ≤ n.val → (l.filter fun p => decide (n.val % tm p = 0)).length % Nat.gcd n.val l.length = 0) &&
  decide (∀ r ∈ ([2, 3] : List Nat), decide (l.length % r = 0) = !decide ((l.filter fun p => decide (tm p = r)) = [])) && decide (l.length % 3 = 0 → (l.filter fun p => decide (tm p = 3)).length / 2 % 3 = 1) &&
  decide (∀ p ∈ l, l.length % tm p = 0 ∧ Mine.inv p ∈ l) && decide ((kindsOf l l.length l).sum = l.length) && decide (∀ k ∈ kindsOf l l.length l, l.length % k = 0) && decide ((kindsOf l l.length l).count 1 = (centre l).length)
theorem facts_of {l : List (Fin 24)} (h : factsB l = true) : Facts l := by
  simp only [factsB, Bool.and_eq_true, decide_eq_true_eq] at h
  obtain ⟨⟨⟨⟨⟨⟨⟨⟨a, b⟩, c⟩, d⟩, e⟩, f⟩, g⟩, i⟩, j⟩ := h
  exact ⟨a, b, c, d, e, f, g, i, j⟩
/-- the masks of what two orders make, and how many each tells -/
def tab : List (Nat × Nat) := [(1, 1), (3, 2), (5, 2), (25, 3), (33, 2), (65, 2), (129, 2), (4353, 3), (328193, 4), (8397825, 4), (526337, 3), (16385, 2), (1081345, 3), (65537, 2), (4325505, 4), (2097153, 2), (8388609, 2), (63, 6), (195, 4), (16777215, 24), (3194883, 6), (12779715, 8), (20805, 6), (10560645, 8), (10485765, 4), (10066329, 12), (2623585, 6), (8733345, 8), (81953, 4), (8454273, 4)]
def lookT (m : Nat) : List (Nat × Nat) → Nat
  | [] => 0
  | (k, n) :: r => bif Nat.beq m k then n else lookT m r
theorem lookT_mem {m n : Nat} : ∀ {t : List (Nat × Nat)}, lookT m t = n → n ≠ 0 → (m, n) ∈ t
  | [], h, hn => absurd h.symm hn
  | (k, c) :: r, h, hn => by
    unfold lookT at h
    cases hb : Nat.beq m k with
    | true =>
      rw [hb] at h
      have := Nat.eq_of_beq_eq_true hb
      subst this
      cases h
      exact .head _
    | false =>
      rw [hb] at h
      exact .tail _ (lookT_mem h hn)
def tabB : List (Nat × Nat) → Bool
  | [] => true
  | (m, n) :: r => (factsB (lst m) && Nat.beq (lst m).length n) && tabB r
theorem tab_ok : tabB tab = true := by decide +kernel
theorem tab_at : ∀ {t : List (Nat × Nat)} {m n : Nat}, tabB t = true → (m, n) ∈ t → Facts (lst m) ∧ (lst m).length = n
  | (k, c) :: r, m, n, h, hm => by
    unfold tabB at h
    rw [Bool.and_eq_true, Bool.and_eq_true] at h
    rcases List.mem_cons.mp hm with e | e
    · cases e; exact ⟨facts_of h.1.1, Nat.eq_of_beq_eq_true h.1.2⟩
    · exact tab_at h.2 e
/-- all the pairs -/
def pairB (p q : Nat) : Bool :=
  let n := lookT (maskN p q) tab
  !(Nat.beq n 0) && Nat.beq n (lookT (maskN (mulT (mulT 23 p) 23) (mulT (mulT 23 q) 23)) tab)
def rowB (p : Nat) : Nat → Bool
  | 0 => true
  | q + 1 => pairB p q && rowB p q
def allB : Nat → Bool
  | 0 => true
  | p + 1 => rowB p 24 && allB p
theorem all_ok : allB 24 = true := by decide +kernel
theorem rowB_at {p : Nat} : ∀ {n q : Nat}, rowB p n = true → q < n → pairB p q = true
  | n + 1, q, h, hq => by
    unfold rowB at h
    rw [Bool.and_eq_true] at h
    by_cases e : q = n
    · subst e; exact h.1
    · exact rowB_at h.2 (by omega)
theorem allB_at : ∀ {n p : Nat}, allB n = true → p < n → rowB p 24 = true
  | n + 1, p, h, hp => by
    unfold allB at h
    rw [Bool.and_eq_true] at h
    by_cases e : p = n
    · subst e; exact h.1
    · exact allB_at h.2 (by omega)
theorem turn_val (p : Fin 24) : (turnP p).val = mulT (mulT 23 p.val) 23 := by
  unfold turnP revP
  rw [← mulT_eq, ← mulT_eq]; rfl
theorem made_facts (p q : Fin 24) : Facts (made [p, q]) ∧ (made [turnP p, turnP q]).length = (made [p, q]).length := by
  have h := rowB_at (allB_at all_ok p.isLt) q.isLt
  unfold pairB at h
  dsimp only at h
  rw [Bool.and_eq_true, Bool.not_eq_true'] at h
  obtain ⟨h1, h2⟩ := h
  have hn : lookT (maskN p.val q.val) tab ≠ 0 := fun e => by rw [e] at h1; cases h1
  have h2' := Nat.eq_of_beq_eq_true h2
  have a1 := tab_at tab_ok (lookT_mem rfl hn)
  have a2 := tab_at tab_ok (lookT_mem h2'.symm hn)
  rw [made_mask, made_mask, turn_val, turn_val]
  exact ⟨a1.1, a2.2.trans a1.2.symm⟩
end Mine
end

section
open PySem PySem.W PyProof.Rows PySem.Calls
set_option maxRecDepth 100000
set_option linter.unusedVariables false
set_option maxHeartbeats 1000000
namespace Mine

theorem bytes_split : splitId "bytes.__len__" = some ("bytes", "__len__") := by decide +kernel
section
variable {prog : Program} {w : World} {A : Around} {E : Value → Shared → Prop} {s : Shared}
theorem list_bytes {b : Array UInt8} {t : Tok} {Q : Value → Shared → Prop} (hh : A.handled = none) (hz : b.size ≤ 1000)
    (hQ : ∀ D h' tk acc n, Sub s.heap h' → s.heap.get? D = none → h'.get? D = some (PySem.W.listOf acc n) → ItemsOf (fun i v => ∃ c u, b[i]? = some c ∧ v = .int (c.toNat : Int) u) acc b.size → Q (.ref D) { s with heap := h', toks := tk }) :
    wpAny (model prog w) A (call (.type "list") [.bytes b t]) Q E s := by
  refine callType_codes (Q₁ := fun obj s₁ => obj = .ref s.heap.objs.size ∧ s₁ = { s with heap := s.heap.push { cls := .type "list", data := .seq #[] } }) PySem.F.called_list (PySem.F.typeCall_list_1 _) PySem.F.entry_list_init
    (code_list_new _ ⟨rfl, rfl⟩) fun obj s₁ h₁ => ?_
  obtain ⟨rfl, rfl⟩ := h₁
  obtain ⟨H, hH⟩ : ∃ H, H = s.heap.push { cls := .type "list", data := .seq #[] } := ⟨_, rfl⟩
  have kH : Sub s.heap H := by subst hH; exact fun b o e => Heap.get?_push_of_some _ e
  have gS : H.get? s.heap.objs.size = some { cls := .type "list", data := .seq #[] } := by subst hH; exact Heap.get?_push_size _ rfl
  have rS : s.heap.get? s.heap.objs.size = none := new_none _
  rw [← hH]
  generalize s.heap.objs.size = S at gS rS ⊢
  refine ⟨⟨_, gS, rfl⟩, PySem.F.args_list_init_2 _ _, ?_⟩
  show wpAny _ _ (do let old ← Builtin.List.listItems (.ref S); Builtin.List.listUpdate (.ref S) (fun _ => #[]); letGo old.toList.reverse; Builtin.List.listExtendWith (.ref S) (.bytes b t) .none) _ _ _
  refine wpAny_bind ?_
  unfold Builtin.List.listItems
  refine wpAny_bind (wpAny_seqItems gS rfl (wpAny_pure ?_))
  show wpAny _ _ (updateSeq S (fun _ => #[]) >>= fun _ => letGo (#[] : Array Value).toList.reverse >>= fun _ => Builtin.List.listExtendWith (.ref S) (.bytes b t) .none) _ _ _
  refine wpAny_bind (wpAny_updateSeq gS rfl ?_)
  have g₂ := Heap.get?_update_self (Obj.mapSeq (fun _ => (#[] : Array Value))) gS rfl
  have x₂ : Heap.ExtBut S H (H.update S (Obj.mapSeq fun _ => (#[] : Array Value))) := (Heap.SameBut.update ..).extBut
  refine wpAny_bind (wpAny_letGo ?_)
  obtain ⟨h₂, e₂⟩ : ∃ h₂, h₂ = H.update S (Obj.mapSeq fun _ => (#[] : Array Value)) := ⟨_, rfl⟩
  dsimp only
  rw [← e₂] at g₂ x₂ ⊢
  clear e₂
  have k₂ : Sub s.heap h₂ := fun c o e => x₂ c o (ne_of_get e rS) (kH _ _ e)
  unfold Builtin.List.listExtendWith
  refine wpAny_bind (wpAny_typeOf (PySem.W.typeIs_bytes _ b t) ?_)
  refine bm_if_false rfl ?_
  refine wpAny_bind (KBw.pyIter_bytes ?_)
  obtain ⟨h₃, e₃⟩ : ∃ h₃, h₃ = h₂.push { cls := .type "bytes_iterator", data := .fields #[.bytes b t, .int 0 0] } := ⟨_, rfl⟩
  dsimp only
  have k₃ : Sub h₂ h₃ := by subst e₃; exact fun b o e => Heap.get?_push_of_some _ e
  have gI : h₃.get? h₂.objs.size = some { cls := .type "bytes_iterator", data := .fields #[.bytes b t, .int 0 0] } := by subst e₃; exact Heap.get?_push_size _ rfl
  have rI : h₂.get? h₂.objs.size = none := new_none _
  rw [← e₃]
  generalize h₂.objs.size = I at gI rI ⊢
  have SI : S ≠ I := ne_of_get g₂ rI
  refine wpAny_bind (wpAny_holding ?_)
  unfold Builtin.List.listLengthHint
  refine wpAny_bind (wpAny_specialOf (PySem.W.typeIs_bytes _ b t) FB.slot_bytes_len.lookup ?_)
  dsimp only
  rw [bytes_split]
  dsimp only
  refine wpAny_bind (wpAny_isInstance (PySem.W.typeIs_bytes _ b t) PySem.F.sub_bytes_bytes ?_)
  refine bm_if_false rfl ?_
  refine bm_if_true (by decide +kernel) ?_
  refine wpAny_bind (wpAny_typeOf (PySem.W.typeIs_bytes _ b t) ?_)
  refine wpAny_pure ?_
  refine bm_if_false (by decide +kernel) ?_
  have W := (KBw.walks (prog := prog) (w := w) (A := A.in1.in1) hh I b t).toS
  refine wpAny_pure ⟨plainId_quiet PySem.F.plain_extend_loop _, ?_⟩
  refine codeAny_extend_loopS W (by rw [sizeLine_eq]; omega) S (by simpa using SI) .none b.size 0 _ #[] _ rfl (Nat.zero_le _) ⟨_, gI, rfl, rfl⟩ (k₃ _ _ g₂) (ItemsOf.nil _) fun s' acc c hm hS' hacc => ?_
  rw [Moved.eq_with hm]
  refine ⟨rfl, hQ S s'.heap s'.toks acc c (fun b' o e => hm.heap b' o (fun hmem => ?_) (k₃ _ _ (k₂ _ _ e))) rS hS' hacc⟩
  rcases List.mem_cons.mp hmem with e' | hmem
  · exact ne_of_get e rS e'
  · exact ne_of_get (k₂ _ _ e) rI (List.mem_singleton.mp hmem)
end
section
variable {w : World} {A : Around} {E : Value → Shared → Prop} {s : Shared} {env : Env} {ref : Heap} {m : Str → Option Value} {R : VP}
theorem cl_list_bytes {l : List UInt8} {t : Tok} (hh : A.handled = none) (hz : l.length ≤ 1000) (k : Sub ref s.heap) : Cl w A (.type "list") [.bytes l.toArray t] (isL ref fun vs => IA vs (bI l)) s := fun E => by
  refine list_bytes hh (by simpa using hz) fun D h' tk acc n kk rD gD hi => ⟨⟨D, acc.toList, n, rfl, none_of_sub k rD, by rw [Array.toArray_toList]; exact gD, ?_⟩, kof kk⟩
  exact ia_bytes (by simpa using hi.1) fun j v hv => hi.2 j v (by rw [← Array.getElem?_toList]; exact hv)
theorem ev_neg {e : Expr} {i : Int} {pos : Pos} (H : Ev w A env ref m e (isI i)) : Ev w A env ref m (.UnaryOp .USub e pos) (isI (-i)) := fun s E F =>
  wpAny_UnaryOp (H.use F fun v s' hv k => by
    obtain ⟨t, rfl⟩ := hv
    exact neg_int ⟨⟨s'.toks, rfl⟩, ktrans k (kof (Sub.refl _))⟩)
/-- a list anew -/
theorem cl_list_list {P : List Value → Prop} {l : Value} (hl : (isO P).p l s.heap) (hz : ∀ vs, P vs → vs.length ≤ 1000) (k : Sub ref s.heap) : Cl w A (.type "list") [l] (isL ref P) s := fun E => by
  obtain ⟨a, vs, n, rfl, ha, hP⟩ := hl
  have := hz _ hP
  exact call_list_seq a (.inl rfl) ha rfl rfl (fun h' c kk g => ⟨⟨_, vs, c, rfl, none_of_sub k (new_none _), g, hP⟩, kof kk⟩) (by rw [List.size_toArray, sizeLine_eq]; omega)
theorem cl_count {ns : List Int} {l : Value} {k : Int} {t : Tok} (hl : (isO fun vs => IA vs ns).p l s.heap) : Cl w A (.builtin "list.count") [l, .int k t] (isI (ns.count k : Nat)) s := fun E => by
  obtain ⟨a, vs, n, rfl, ha, hi⟩ := hl
  exact count_list_ints ⟨_, ha, rfl, n, rfl⟩ hi.ints ⟨⟨_, rfl⟩, kof (Sub.refl _)⟩
theorem preSum_sum (ns : List Nat) : ∀ j, preSum (fun i => ((ns.getD i 0 : Nat) : Int)) j = ((ns.take j).sum : Nat) := by
  intro j
  induction j with
  | zero => rfl
  | succ j ih =>
    show preSum _ j + _ = _
    rw [ih, List.take_add_one, List.sum_append]
    by_cases h : j < ns.length
    · rw [List.getElem?_eq_getElem h]; simp [List.getD, List.getElem?_eq_getElem h]
    · rw [List.getElem?_eq_none (by omega)]; simp [List.getD, List.getElem?_eq_none (Nat.not_lt.mp h)]
theorem take_sum_le (ns : List Nat) (j : Nat) : (ns.take j).sum ≤ ns.sum := by
  conv => rhs; rw [← List.take_append_drop j ns]
  rw [List.sum_append]; omega
theorem cl_sum {ns : List Nat} {l : Value} (hh : A.handled = none) (hl : (isO fun vs => IA vs (ns.map fun (n : Nat) => (n : Int))).p l s.heap) (hz : ns.sum ≤ 1000) (hz' : ns.length ≤ 1000) : Cl w A (.builtin "sum") [l] (isI (ns.sum : Nat)) s := fun E => by
  obtain ⟨a, vs, n, rfl, ha, hi⟩ := hl
  have hlen : vs.length = ns.length := by have := pa_len hi; simpa using this
  refine call_sum_walk ?_
  refine wpAny_pyIter_list ⟨_, ha, rfl, n, rfl⟩ ?_
  have aI : a ≠ s.heap.objs.size := Nat.ne_of_lt (Heap.lt_size ha)
  refine ⟨_, _, _, _, _, _, fun i => ((ns.getD i 0 : Nat) : Int), rfl, Walks.list (prog := PySem.Challenge.rw_ho0001_01.row.prog) (w := w) (A := A.in1) hh s.heap.objs.size a aI vs.toArray, ⟨⟨_, Heap.get?_push_size _ rfl, rfl, rfl⟩, ⟨_, Heap.get?_push_of_some _ ha, rfl, n, rfl⟩⟩, ?_, ?_, ?_, ?_⟩
  · intro b hb
    show b < (s.heap.push _).objs.size
    rw [Heap.size_push]
    rcases List.mem_cons.mp hb with rfl | hb
    · exact Nat.lt_succ_self _
    · rcases List.mem_cons.mp hb with rfl | hb
      · exact Nat.lt_succ_of_lt (Heap.lt_size ha)
      · cases hb
  · intro i v hv
    obtain ⟨y, hy, t, rfl⟩ := pa_get hi (by simpa using hv)
    rw [List.getElem?_map] at hy
    obtain ⟨z, hz, rfl⟩ := Option.map_eq_some_iff.mp hy
    exact ⟨t, by simp [List.getD, hz]⟩
  · intro j hj
    rw [preSum_sum]
    have h1 := take_sum_le ns (j + 1)
    have h2 : ns.getD j 0 ≤ ns.sum := by
      have := take_sum_le ns (j + 1)
      rw [List.take_add_one, List.sum_append] at this
      have hj' : j < ns.length := by simpa [hlen] using hj
      rw [List.getElem?_eq_getElem hj'] at this
      simp [List.getD, List.getElem?_eq_getElem hj'] at this ⊢
      omega
    dsimp only; exact ⟨⟨by omega, by omega⟩, ⟨by omega, by omega⟩⟩
  · intro h' tk t' kk
    rw [preSum_sum]
    refine ⟨⟨t', ?_⟩, kof fun b o e => kk b o (fun hm => ?_) (Heap.get?_push_of_some _ e)⟩
    · rw [List.take_of_length_le (by simp [hlen])]
    · exact absurd (Heap.lt_size e) (by rw [List.mem_singleton.mp hm]; exact Nat.lt_irrefl _)
end
end Mine
end

section
open PySem PySem.W PyProof.Rows PySem.Calls
set_option maxRecDepth 100000
set_option linter.unusedVariables false
set_option maxHeartbeats 1000000
namespace Mine

/-- a frame with cells -/
structure LF (h₀ h : Heap) (L : Addr) (m : Str → Option Value) (cs : List (Str × Addr)) (cm : Str → Option Value) : Prop where
  F : Fr h₀ L h m
  cell : ∀ n c, cs.lookup n = some c → h.IsCell c (cm n)
  apart : ∀ n c n' c', cs.lookup n = some c → cs.lookup n' = some c' → n ≠ n' → c ≠ c'
  off : ∀ n c, cs.lookup n = some c → c ≠ L ∧ h₀.get? c = none
/-- an address that is none of the frame's own -/
def OffO (L : Addr) (cs : List (Str × Addr)) (a : Addr) : Prop := a ≠ L ∧ ∀ n c, cs.lookup n = some c → a ≠ c
/-- the frame's own alone have changed -/
def Chg (L : Addr) (cs : List (Str × Addr)) (h h' : Heap) : Prop := ∀ a o, OffO L cs a → h.get? a = some o → h'.get? a = some o
section
variable {h₀ h h' h'' : Heap} {L : Addr} {m m' cm : Str → Option Value} {cs : List (Str × Addr)}
theorem Chg.sub (k : Sub h h') : Chg L cs h h' := fun a o _ e => k a o e
theorem Chg.trans (x : Chg L cs h h') (y : Chg L cs h' h'') : Chg L cs h h'' := fun a o n e => y a o n (x a o n e)
theorem LF.fm (X : LF h₀ h L m cs cm) : Fm h L m h := ⟨Sub.refl _, X.F.ns⟩
theorem LF.sub (X : LF h₀ h L m cs cm) (k : Sub h h') : LF h₀ h' L m cs cm := ⟨X.F.keptAll k, fun n c e => (X.cell n c e).keeps k, X.apart, X.off⟩
theorem LF.new (X : LF h₀ h L m cs cm) {a : Addr} (e : h.get? a = none) : OffO L cs a := by
  refine ⟨fun q => ?_, fun n c hc q => ?_⟩
  · obtain ⟨o, _, _, ho, _⟩ := X.F.ns
    exact ne_of_get ho e q.symm
  · obtain ⟨o, ho, _⟩ := X.cell n c hc
    exact ne_of_get ho e q.symm
/-- another object has changed -/
theorem LF.ext (X : LF h₀ h L m cs cm) {b : Addr} (hb : OffO L cs b) (hn : h₀.get? b = none) (x : Heap.ExtBut b h h') : LF h₀ h' L m cs cm :=
  ⟨fr_ext X.F hb.1 hn x, fun n c e => by obtain ⟨o, ho, q⟩ := X.cell n c e; exact ⟨o, x c o (Ne.symm (hb.2 n c e)) ho, q⟩, X.apart, X.off⟩
theorem LF.loc (X : LF h₀ h L m cs cm) (F : Fr h₀ L h' m') (x : Heap.ExtBut L h h') : LF h₀ h' L m' cs cm :=
  ⟨F, fun n c e => by obtain ⟨o, ho, q⟩ := X.cell n c e; exact ⟨o, x c o (X.off n c e).1 ho, q⟩, X.apart, X.off⟩
theorem LF.setC (X : LF h₀ h L m cs cm) {x : Str} {c : Addr} {v : Value} (hc : cs.lookup x = some c) (hv : h'.IsCell c (some v)) (e : Heap.ExtBut c h h') : LF h₀ h' L m cs (upd cm x v) := by
  refine ⟨fr_ext X.F (X.off x c hc).1 (X.off x c hc).2 e, fun n c' hc' => ?_, X.apart, X.off⟩
  by_cases hn : n = x
  · subst hn
    rw [hc] at hc'
    cases hc'
    rw [show upd cm n v n = some v from upd_at]
    exact hv
  · have hcc := X.apart n c' x c hc' hc hn
    obtain ⟨o, ho, q⟩ := X.cell n c' hc'
    rw [show upd cm x v n = cm n from if_neg hn]
    exact ⟨o, e c' o hcc ho, q⟩
theorem chg_L (x : Heap.ExtBut L h h') : Chg L cs h h' := fun a o n e => x a o n.1 e
theorem chg_C {x : Str} {c : Addr} (hc : cs.lookup x = some c) (e : Heap.ExtBut c h h') : Chg L cs h h' := fun a o n q => e a o (n.2 x c hc) q
theorem LF.newL (X : LF h₀ h L m cs cm) {h₁ : Heap} {P : List Value → Prop} {v : Value} (hv : (isL h P).p v h₁) (c : Chg L cs h₁ h') : ∃ D vs n, v = .ref D ∧ h'.get? D = some (PySem.W.listOf vs.toArray n) ∧ P vs ∧ OffO L cs D ∧ h₀.get? D = none := by
  obtain ⟨D, vs, n, rfl, rD, gD, hP⟩ := hv
  have o := X.new rD
  exact ⟨D, vs, n, rfl, c _ _ o gD, hP, o, none_of_sub X.F.keep rD⟩
end

section
variable {w : World} {A : Around} {E : Value → Shared → Prop} {s : Shared} {h₀ : Heap} {L fa : Addr} {m cm : Str → Option Value} {cs : List (Str × Addr)} {name : Str} {fs : Scope} {cd : Value} {R : VP}
theorem storeLC {x : Str} {v : Value} {c : Addr} {Q : Unit → Shared → Prop} (X : LF h₀ s.heap L m cs cm) (hc : cs.lookup x = some c)
    (h : ∀ h' tk, LF h₀ h' L m cs (upd cm x v) → Chg L cs s.heap h' → Q () { s with heap := h', toks := tk })
    (hk : fs.kind = .function := by rfl) (hx : (envX name fs L fa cd cs).kindOf x = some .cell := by rfl) :
    wpAny (model PySem.Challenge.rw_ho0001_01.row.prog w) A (storeName (envX name fs L fa cd cs) x v) Q E s :=
  wpAny_storeName_cell hk hx hc (X.cell x c hc) fun h' hv hs => h h' _ (X.setC hc hv hs.extBut) (chg_C hc hs.extBut)
theorem storeLL {x : Str} {v : Value} {Q : Unit → Shared → Prop} (X : LF h₀ s.heap L m cs cm)
    (h : ∀ h' tk, LF h₀ h' L (upd m x v) cs cm → Chg L cs s.heap h' → Q () { s with heap := h', toks := tk })
    (hk : fs.kind = .function := by rfl) (hx : (envX name fs L fa cd cs).kindOf x = some .local := by rfl) :
    wpAny (model PySem.Challenge.rw_ho0001_01.row.prog w) A (storeName (envX name fs L fa cd cs) x v) Q E s :=
  storeL X.F (fun h' tk F' x' => h h' tk (X.loc F' x') (chg_L x')) hk hx
/-- a cell is stored -/
theorem asgLC {x : Str} {c : Addr} {e : Expr} {p p' : Pos} {Q : Flow → Shared → Prop} (X : LF h₀ s.heap L m cs cm) (hc : cs.lookup x = some c) (H : Ev w A (envX name fs L fa cd cs) s.heap m e R)
    (k : ∀ v h₁ h' tk, R.p v h₁ → Sub s.heap h₁ → Chg L cs h₁ h' → LF h₀ h' L m cs (upd cm x v) → Q .next { s with heap := h', toks := tk })
    (hk : fs.kind = .function := by rfl) (hx : (envX name fs L fa cd cs).kindOf x = some .cell := by rfl)
    (hs : swapsWith e (some (.Name x p)) p'.line (envX name fs L fa cd cs) = pure false := by rfl) :
    wpAny (model PySem.Challenge.rw_ho0001_01.row.prog w) A (exec (.Assign [.Name x p] e p') (envX name fs L fa cd cs)) Q E s := by
  refine wpAny_Assign_Name (H.use X.fm fun v s₁ hv kk => ?_) hs
  obtain ⟨h₁, t₁, rfl, k₁⟩ := kk
  exact storeLC (X.sub k₁) hc (fun h' tk X' c' => k v h₁ h' tk hv k₁ c' X') hk hx
/-- so, its value on a clean stack -/
theorem casgLC {x : Str} {c : Addr} {e : Expr} {p p' : Pos} {Q : Flow → Shared → Prop} (X : LF h₀ s.heap L m cs cm) (hc : cs.lookup x = some c)
    (H : ∀ Q', (∀ v s', Keeps s s' → R.p v s'.heap → Q' v s') → wpC (model PySem.Challenge.rw_ho0001_01.row.prog w) A (eval e (envX name fs L fa cd cs)) Q' E s)
    (k : ∀ v h₁ h' tk, R.p v h₁ → Sub s.heap h₁ → Chg L cs h₁ h' → LF h₀ h' L m cs (upd cm x v) → Q .next { s with heap := h', toks := tk })
    (hk : fs.kind = .function := by rfl) (hx : (envX name fs L fa cd cs).kindOf x = some .cell := by rfl)
    (hs : swapsWith e (some (.Name x p)) p'.line (envX name fs L fa cd cs) = pure false := by rfl) :
    wpC (model PySem.Challenge.rw_ho0001_01.row.prog w) A (exec (.Assign [.Name x p] e p') (envX name fs L fa cd cs)) Q E s := by
  refine wpC_Assign_Name (H _ fun v s₁ kk hv => ?_) hs
  obtain ⟨h₁, t₁, rfl, k₁⟩ := kk
  exact storeLC (X.sub k₁) hc (fun h' tk X' c' => k v h₁ h' tk hv k₁ c' X') hk hx
end

section
variable {w : World} {A : Around} {E : Value → Shared → Prop} {s : Shared} {prog : Program} {env : Env}
theorem wpC_runOwn {c : Code} {Q : Flow → Shared → Prop} {M : Model} (hcl : clean c = true) (hc : codeC M A c (fun r s' => match r with | .ok f => Q f s' | .error _ => False) s) : wpC M A (runOwn c env) Q E s := by
  unfold runOwn
  refine wpC_onRaise (wpC_run (h := none) hcl (codeC_mono (A := A) hc fun r s' hr => ?_))
  cases r with
  | ok f => exact hr
  | error e => exact hr.elim
theorem wpC_For {target iter : Expr} {body orelse : List Stmt} {pos : Pos} {Q : Flow → Shared → Prop} {M : Model}
    (h : wpAny M A (eval iter env) (fun x s₁ => wpAny M A (pyIter x) (fun it s₂ => codeC M A (.forLoop target it body orelse env) (fun r s' => match r with | .ok f => Q f s' | .error _ => False) s₂) E s₁) E s)
    (hs : ∀ x, foldedSetIterable iter env x = pure x := by intro _; rfl) : wpC M A (exec (.For target iter body orelse pos) env) Q E s := by
  rw [exec_For]
  exact wpC_standAt (wpC_seq (wpAny_mono h (fun x s₁ h₁ => wpC_bind (wpC_of_eq (hs x) (wpC_standAt (wpC_bind (wpC_holding (wpC_any (wpAny_mono h₁ (fun it s₂ h₂ => wpC_runOwn rfl h₂) fun _ _ h' => h'))))))) fun _ _ h' => h'))
theorem wpC_While {test : Expr} {body orelse : List Stmt} {pos : Pos} {Q : Flow → Shared → Prop} {M : Model}
    (h : codeC M A (.whileLoop test body orelse env) (fun r s' => match r with | .ok f => Q f s' | .error _ => False) s) : wpC M A (exec (.While test body orelse pos) env) Q E s := by
  rw [exec_While]; exact wpC_standAt (wpC_runOwn rfl h)
theorem codeC_block {stmts : List Stmt} {R : Result → Shared → Prop} (h : wpC (model prog w) A (execs stmts env) (fun f s' => R (.ok f) s') (fun _ _ => False) s) : codeC (model prog w) A (.block stmts env) R s := by
  refine codeC_of_tree ?_
  show wpC _ A (do return Fin.done (← (execs stmts env).onRaise (fun x => do noteFrame x env; theTreesLotGoes x))) _ _ s
  refine wpC_bind (wpC_onRaise (wpC_mono h (fun f s' h' => wpC_pure h') fun _ _ x => x.elim))
theorem codeC_loop' {c : Code} {R : Result → Shared → Prop} {M : Model} (hq : c.quiet = true) (hcl : clean c = true) (I : Nat → Shared → Prop)
    (turn : ∀ n s, I n s → wpC M (A.under c) (M.den c) (fun fin s' => match fin with | .done f => R (.ok f) s' | .again c' => (c' = c ∧ ∃ m, m < n ∧ I m s') ∨ (c'.quiet = true ∧ clean c' = true ∧ codeC M A c' R s')) (fun e s' => R (.error e) s') s)
    (n : Nat) (h : I n s) : codeC M A c R s := by
  induction n using Nat.strongRecOn generalizing s with
  | ind n ih =>
    refine codeC_of_tree (wpC_mono (turn n s h) (fun fin s' hf => ?_) fun _ _ h' => h')
    cases fin with
    | done f => exact hf
    | again c' =>
      rcases hf with ⟨rfl, m, hm, hI⟩ | hf
      · exact ⟨hq, hcl, ih m hm hI⟩
      · exact hf
theorem codeC_forLoop {R : Result → Shared → Prop} {target : Expr} {it : Value} {body : List Stmt} (I : Nat → Shared → Prop)
    (turn : ∀ n s, I n s → wpAny (model prog w) A (pyNext it) (fun r s₁ => match r with
      | none => R (.ok .next) s₁
      | some v => wpAny (model prog w) A (assign target env v) (fun _ s₂ => wpC (model prog w) A (execs body env) (fun f s₃ => match f with
          | .next | .cont => ∃ m, m < n ∧ I m s₃
          | .brk => R (.ok .next) s₃
          | .ret v => R (.ok (.ret v)) s₃) (fun _ _ => False) s₂) (fun _ _ => False) s₁) (fun _ _ => False) s)
    (n : Nat) (h : I n s) (ht : ∀ v, letOwnedTupleGo target it v = pure () := by intro _; rfl) : codeC (model prog w) A (.forLoop target it body [] env) R s := by
  refine codeC_loop' rfl rfl I (fun n s hI => ?_) n h
  show wpC _ A ((forTurn target it body [] env).onRaise (fun x => do noteFrame x env; theTreesLotGoes x)) _ _ s
  refine wpC_onRaise (wpC_mono (E := fun _ _ => False) ?_ (fun _ _ x => x) fun _ _ x => x.elim)
  simp only [forTurn]
  refine wpC_standAt (wpC_seq (wpAny_onRaise (wpAny_mono (turn n s hI) (fun r s₁ h₁ => ?_) fun _ _ h' => h'.elim)))
  cases r with
  | none => exact wpC_pure (.inr ⟨rfl, rfl, codeC_block (wpC_pure h₁)⟩)
  | some v =>
    refine wpC_bind (wpC_of_eq (ht v) ?_)
    refine wpC_seq (wpAny_mono h₁ (fun _ s₂ h₂ => wpC_bind (wpC_mono h₂ (fun f s₃ h₃ => ?_) fun _ _ h' => h')) fun _ _ h' => h')
    cases f with
    | next => exact wpC_pure (.inl ⟨rfl, h₃⟩)
    | cont => exact wpC_pure (.inl ⟨rfl, h₃⟩)
    | brk => exact wpC_pure h₃
    | ret v => exact wpC_pure h₃
theorem codeC_whileLoop {R : Result → Shared → Prop} {test : Expr} {body : List Stmt} (I : Nat → Shared → Prop)
    (turn : ∀ n s, I n s → wpAny (model prog w) A (isTrue test env (eval test env)) (fun b s₂ =>
        if b then wpC (model prog w) A (execs body env) (fun f s₃ => match f with
            | .next | .cont => ∃ m, m < n ∧ I m s₃
            | .brk => R (.ok .next) s₃
            | .ret v => R (.ok (.ret v)) s₃) (fun _ _ => False) s₂
        else R (.ok .next) s₂) (fun _ _ => False) s)
    (n : Nat) (h : I n s) : codeC (model prog w) A (.whileLoop test body [] env) R s := by
  refine codeC_loop rfl rfl I (fun n s hI => ?_) n h
  show wpC _ A ((whileTurn test body [] env).onRaise (fun x => do noteFrame x env; theTreesLotGoes x)) _ _ s
  refine wpC_onRaise (wpC_mono (E := fun _ _ => False) ?_ (fun _ _ x => x) fun _ _ x => x.elim)
  simp only [whileTurn]
  refine wpC_seq (wpAny_mono (turn n s hI) (fun b s₂ h₂ => ?_) fun _ _ h' => h')
  cases b with
  | false =>
    simp only [Bool.false_eq_true, if_false] at h₂ ⊢
    exact wpC_bind (wpC_pure (wpC_pure h₂))
  | true =>
    simp only [if_true] at h₂ ⊢
    refine wpC_bind (wpC_mono h₂ (fun f s₃ h₃ => ?_) fun _ _ h' => h')
    cases f with
    | next => exact wpC_pure ⟨rfl, h₃⟩
    | cont => exact wpC_pure ⟨rfl, h₃⟩
    | brk => exact wpC_pure h₃
    | ret v => exact wpC_pure h₃
end
end Mine
end

section
open PySem PySem.W PyProof.Rows PySem.Calls
set_option maxRecDepth 100000
set_option linter.unusedVariables false
set_option maxHeartbeats 16000000
namespace Mine

theorem pw_apart : ∀ {cs : List (Str × Addr)}, (cs.Pairwise fun x y => x.2 ≠ y.2) → ∀ {a b : Str × Addr}, a ∈ cs → b ∈ cs → a ≠ b → a.2 ≠ b.2
  | [], _, _, _, h, _, _ => nomatch h
  | c :: r, hp, a, b, ha, hb, hab => by
    obtain ⟨h1, h2⟩ := List.pairwise_cons.mp hp
    rcases List.mem_cons.mp ha with ea | ha'
    · rcases List.mem_cons.mp hb with eb | hb'
      · exact absurd (ea.trans eb.symm) hab
      · rw [ea]; exact h1 _ hb'
    · rcases List.mem_cons.mp hb with eb | hb'
      · rw [eb]; exact (h1 _ ha').symm
      · exact pw_apart h2 ha' hb' hab
theorem mem_lookup {n : Str} {c : Addr} : ∀ {cs : List (Str × Addr)}, cs.lookup n = some c → (n, c) ∈ cs
  | [], h => nomatch h
  | (k, d) :: r, h => by
    rw [List.lookup_cons] at h
    cases hk : n == k with
    | true =>
      rw [hk] at h
      have := eq_of_beq hk
      subst this
      cases h
      exact .head _
    | false =>
      rw [hk] at h
      exact .tail _ (mem_lookup h)
theorem LF.of {s₀ s : Shared} {m cm : Str → Option Value} {cs : List (Str × Addr)} (x : InCallC s₀ s₀.heap.objs.size m cs cm s) : LF s₀.heap s.heap s₀.heap.objs.size m cs cm :=
  ⟨⟨x.toInCall.ns, x.toInCall.keep, Nat.le_refl _⟩, x.cell, fun n c n' c' h h' hn => pw_apart x.apart (mem_lookup h) (mem_lookup h') fun e => hn (congrArg Prod.fst e),
   fun n c h => ⟨Nat.ne_of_gt (x.above n c (mem_lookup h)), by
    cases e : s₀.heap.get? c with
    | none => rfl
    | some o => exact absurd (Heap.lt_size e) (Nat.not_lt.mpr (Nat.le_of_lt (x.above n c (mem_lookup h))))⟩⟩

/-- entering a def with cells, on a clean stack -/
theorem enterCC {w : World} {A : Around} {R : Result → Shared → Prop} {s : Shared} {k : Nat} {name qual : Str} {params : Arguments} {body : List Stmt} {scope : Scope} {dV kV doc pm cdv ct oc : Value} {an od : Option Addr} {osl : Array (Option Value)} {f : Addr} {vals : List Value} {binds : List (Str × Value)}
    (S : Sta w s.heap) (rm : Rm A (k + 1))
    (ho : (hd.heap_39 w.params).lookup f = some ⟨oc, od, .func (fnOf name qual params body scope dV kV doc pm an cdv ct), osl⟩) (hcd : codeIn (hd.heap_39 w.params) cdv qual = true)
    (hbind : bindArgs (fnOf name qual params body scope dV kV doc pm an cdv ct) ⟨vals, []⟩ = pure binds)
    (hkind : (binds.all fun y => scope.names.lookup y.1 == some .local || scope.names.lookup y.1 == some .cell) = true)
    (h : ∀ h₁ tk, Sub s.heap h₁ → LF s.heap h₁ s.heap.objs.size (bindL (envX qual scope s.heap.objs.size f cdv (cellsFrom (s.heap.objs.size + 1) scope.names [])).kindOf binds fun _ => none) (cellsFrom (s.heap.objs.size + 1) scope.names [])
        (bindC (envX qual scope s.heap.objs.size f cdv (cellsFrom (s.heap.objs.size + 1) scope.names [])).kindOf binds fun _ => none) →
      Rm (A.deeper (envX qual scope s.heap.objs.size f cdv (cellsFrom (s.heap.objs.size + 1) scope.names []))) k →
      wpC (model PySem.Challenge.rw_ho0001_01.row.prog w) (A.deeper (envX qual scope s.heap.objs.size f cdv (cellsFrom (s.heap.objs.size + 1) scope.names []))) (execs body (envX qual scope s.heap.objs.size f cdv (cellsFrom (s.heap.objs.size + 1) scope.names [])))
        (fun fl s' => R (.ok (.ret (match fl with | .ret v => v | _ => .none))) s') (fun _ _ => False) { s with heap := h₁, toks := tk })
    (hco : scope.isCoroutine = false) (hgen : scope.isGenerator = false) (hk : scope.kind = .function) :
    codeC (model PySem.Challenge.rw_ho0001_01.row.prog w) A (.call (.ref f) ⟨vals, []⟩) R s := by
  obtain ⟨_, _, _, _, T⟩ := S.T
  refine codeC_fun (fd := fnOf name qual params body scope dV kV doc pm an cdv ct) (body := body) (by have := rm.depth; show A.depth < 1000; omega) (S.K _ _ ho) rfl hco hgen rfl (codeRec_of S.K hcd) ?_
  rw [hbind]
  refine wpAny_pure (wpAny_newFunctionEnv_cells hk (kindsX hkind _) fun env he s' x => ?_)
  subst he
  have X := LF.of x
  have kp := x.toInCall.keep
  obtain ⟨h₁, t₁, rfl, k₁⟩ := x.done
  exact ⟨T.nolimit.keeps kp, codeC_func (h h₁ t₁ k₁ X rm.deeper)⟩
theorem isL_ref {ref h h' : Heap} {P : List Value → Prop} {v : Value} (H : (isL h P).p v h') (k : Sub ref h) : (isL ref P).p v h' := by
  obtain ⟨a, vs, n, e, f, g, q⟩ := H; exact ⟨a, vs, n, e, none_of_sub k f, g, q⟩

theorem Rm.cl {A : Around} {k : Nat} (rm : Rm A k) : A.units < cLine := by have := rm.units; show _ < 9900; omega
theorem Ev.mono' {w : World} {A : Around} {env : Env} {ref : Heap} {m : Str → Option Value} {R₁ R₂ : VP} {e : Expr} (H : Ev w A env ref m e R₁) (k : ∀ v (s' : Shared), Fm ref env.locals m s'.heap → R₁.p v s'.heap → R₂.p v s'.heap) : Ev w A env ref m e R₂ := fun s E F =>
  wpAny_mono (H s E F) (fun v s' h => ⟨k v s' (F.keeps (ksub h.2)) h.1, h.2⟩) fun _ _ x => x

theorem slice_48 (vs : List Value) : ∃ i j, (slicePick vs.toArray (some 4) (some 8) none).toList = (vs.drop i).take j := by
  rw [slicePick_plain]
  exact ⟨_, _, rfl⟩
theorem c_call1C {w : World} {A : Around} {E : Value → Shared → Prop} {s : Shared} {env : Env} {ref : Heap} {m : Str → Option Value} {R₁ : VP} {f : Value} {fe e : Expr} {pos : Pos} {Q : Value → Shared → Prop} (Hf : Ev w A env ref m fe (eqv f)) (F : Fm ref env.locals m s.heap)
    (hk : ∀ h, Sub ref h → Kp (model PySem.Challenge.rw_ho0001_01.row.prog w) f h)
    (H : ∀ s₁ Q', Keeps s s₁ → (∀ v s₂, Keeps s₁ s₂ → R₁.p v s₂.heap → Q' v s₂) → wpC (model PySem.Challenge.rw_ho0001_01.row.prog w) A (eval e env) Q' E s₁)
    (k : ∀ a s', Keeps s s' → R₁.p a s'.heap → wpC (model PySem.Challenge.rw_ho0001_01.row.prog w) A (call f [a]) Q E s')
    (hc : eval (.Call fe [e] [] pos) env = (do callWith pos (← eval fe env) [] (backTo pos (starEach [e] env)) (backToKw pos (keywordEach [] env))) := by rfl)
    (he : starEach [e] env = (false, eval e env) :: starEach [] env := by rfl) : wpC (model PySem.Challenge.rw_ho0001_01.row.prog w) A (eval (.Call fe [e] [] pos) env) Q E s := by
  rw [hc]
  refine wpC_seq (Hf.use F fun v s₁ hv k₁ => ?_)
  obtain rfl : v = f := hv
  refine wpC_callWith (wpC_spliced1 (H s₁ _ k₁ fun a s₂ k₂ ha => ?_) he) he rfl
  have kk := ktrans k₁ k₂
  exact ⟨hk _ (F.keeps (ksub kk)).keep, k a s₂ kk ha⟩
theorem mem_addK : ∀ (l ks : List (Fin 24)) (x : Fin 24), x ∈ l.foldl addK ks ↔ x ∈ ks ∨ x ∈ l
  | [], ks, x => by simp
  | a :: r, ks, x => by
    rw [List.foldl_cons, mem_addK r, List.mem_cons]
    unfold addK
    split
    · rename_i h
      constructor
      · rintro (h' | h')
        · exact .inl h'
        · exact .inr (.inr h')
      · rintro (h' | rfl | h')
        · exact .inl h'
        · exact .inl h
        · exact .inr h'
    · rw [List.mem_append, List.mem_singleton]
      constructor
      · rintro ((h' | h') | h')
        · exact .inl h'
        · exact .inr (.inl h')
        · exact .inr (.inr h')
      · rintro (h' | h' | h')
        · exact .inl (.inl h')
        · exact .inl (.inr h')
        · exact .inr h'
/-- what stands through the law -/
structure LK where
  h₀ : Heap
  L : Addr
  cs : List (Str × Addr)
  one : Value
  other : Value
  Mm : Addr
  oM : Obj
  many : Value
  Dt : Addr
  oD : Obj
structure LS (Z : LK) (h : Heap) (m cm : Str → Option Value) : Prop where
  X : LF Z.h₀ h Z.L m Z.cs cm
  m1 : m (Str.ofString "one") = some Z.one
  m2 : m (Str.ofString "other") = some Z.other
  d1 : cm (Str.ofString "made") = some (.ref Z.Mm)
  d2 : cm (Str.ofString "many") = some Z.many
  d3 : cm (Str.ofString "times") = some (.ref Z.Dt)
  gM : h.get? Z.Mm = some Z.oM
  gD : h.get? Z.Dt = some Z.oD
  oM : OffO Z.L Z.cs Z.Mm
  oD : OffO Z.L Z.cs Z.Dt
section
variable {Z : LK} {h h' : Heap} {m cm : Str → Option Value}
theorem LS.sub (Y : LS Z h m cm) (k : Sub h h') : LS Z h' m cm := { Y with X := Y.X.sub k, gM := k _ _ Y.gM, gD := k _ _ Y.gD }
theorem LS.setL (Y : LS Z h m cm) {x : Str} {v : Value} (X : LF Z.h₀ h' Z.L (upd m x v) Z.cs cm) (c : Chg Z.L Z.cs h h') (h1 : Str.ofString "one" ≠ x) (h2 : Str.ofString "other" ≠ x) : LS Z h' (upd m x v) cm :=
  { Y with X := X, m1 := (if_neg h1).trans Y.m1, m2 := (if_neg h2).trans Y.m2, gM := c _ _ Y.oM Y.gM, gD := c _ _ Y.oD Y.gD }
theorem LS.setC (Y : LS Z h m cm) {x : Str} {v : Value} (X : LF Z.h₀ h' Z.L m Z.cs (upd cm x v)) (c : Chg Z.L Z.cs h h') (h1 : Str.ofString "made" ≠ x) (h2 : Str.ofString "many" ≠ x) (h3 : Str.ofString "times" ≠ x) : LS Z h' m (upd cm x v) :=
  { Y with X := X, d1 := (if_neg h1).trans Y.d1, d2 := (if_neg h2).trans Y.d2, d3 := (if_neg h3).trans Y.d3, gM := c _ _ Y.oM Y.gM, gD := c _ _ Y.oD Y.gD }
theorem LS.ext (Y : LS Z h m cm) {b : Addr} (hb : OffO Z.L Z.cs b) (hn : Z.h₀.get? b = none) (x : Heap.ExtBut b h h') (h1 : Z.Mm ≠ b) (h2 : Z.Dt ≠ b) : LS Z h' m cm :=
  { Y with X := Y.X.ext hb hn x, gM := x _ _ h1 Y.gM, gD := x _ _ h2 Y.gD }
end
/-- an order's times, looked up -/
theorem ev_tm {w : World} {A : Around} {env : Env} {ref : Heap} {m : Str → Option Value} {ms : List (Fin 24)} {a : Fin 24} {ta : Tok} {Dt : Addr} {kvs : List (List UInt8 × Value)} {oDt : Obj} {ve ie : Expr} {pos : Pos}
    (H₁ : Ev w A env ref m ve (eqv (.ref Dt))) (H₂ : Ev w A env ref m ie (eqv (.bytes (PB a).toArray ta))) (g : ref.get? Dt = some oDt) (hD : oDt.IsDictOf (bytesKind PySem.Challenge.rw_ho0001_01.row.prog w) kvs) (hK : DK (fun p v => vI v (tm p : Nat)) kvs (ms.foldl addK [])) (ha : a ∈ ms) (lo : (Dt == sysModules) = false)
    (hs : ∀ (o i : Value), subscripted ie false o i = operate [o, i] (getItem o i) := by intro _ _; with_unfolding_all rfl) :
    Ev w A env ref m (.Subscript ve ie pos) (isI (tm a : Nat)) := by
  refine ev_sub H₁ H₂ fun x y s E F hx hy => ?_
  obtain rfl := hx
  obtain rfl := hy
  exact sub_dict (ref₁ := default) (G := fun p v => vI v (tm p : Nat)) ⟨Dt, kvs, rfl, rfl, Heap.dictOf_iff.mpr ⟨oDt, F.keep _ _ g, hD⟩, hK, lo⟩ ⟨_, rfl⟩ ((mem_addK _ _ _).mpr (.inr ha)) hs
theorem walks_mono {prog : Program} {w : World} {A : Around} {I : Addr} {fp wr : List Addr} {n : Nat} {P P' : Nat → Value → Prop} {St : Nat → Heap → Prop} (W : Walks prog w A I fp wr n P St) (h : ∀ i v, P i v → P' i v) : Walks prog w A I fp wr n P' St where
  sub := W.sub
  frame := W.frame
  item := fun i s Q E hi st hQ => W.item i s Q E hi st fun v h' tk hv => hQ v h' tk (h i v hv)
  done := W.done
  self := W.self
/-- those of a list of orders for which a test holds -/
theorem ev_compP {w : World} {A : Around} {env : Env} {ref : Heap} {m : Str → Option Value} {iter : Expr} {x : Str} {px py : Pos} {ifs : List Expr} {scope : Scope} {cl : List (Str × Addr)} {pos : Pos} {ps : List (Fin 24)} (t : Fin 24 → Bool) (hh : A.handled = none)
    (Hi : Ev w A env ref m iter (isO fun vs => PA vs ps)) (ht : ∀ C m₃ v a, vP v a → a ∈ ps → m₃ x = some v → Trs w A (compEnvC scope cl C env) ref m₃ ifs (t a)) (hz : ps.length ≤ 1000)
    (hclos : closureFor scope env = pure cl := by rfl) (hcell : ∀ y ∈ scope.names, y.2 ≠ .cell := by decide) (hkind : scope.kind = .function := by rfl)
    (hnames : ∀ y ∈ scope.names, y.2 = .local → scope.names.lookup y.1 = some .local := by decide) (hx : scope.names.lookup x = some .local := by rfl)
    (hs : ∀ x, foldedSetIterable iter env x = pure x := by intro _; rfl) (hd : (x == ("__debug__" : Str)) = false := by decide) (hr : (relabel scope env).kind = .function := by rfl) :
    Ev w A env ref m (.ListComp (.Name x py) [⟨.Name x px, iter, ifs, 0⟩] scope pos) (isL ref fun ys => PA ys (ps.filter t)) := by
  refine Ev.mono (ev_comp (n := ps.length) (P := fun i v => ∃ a, ps[i]? = some a ∧ vP v a) (fun v => (pOf v).elim false t) (fun v y => y = v) Hi (fun s v F hv => ?_) (fun C m₃ i v hP hm => ?_) (fun C m₃ i v hP _ hm => ?_) (by rw [sizeLine_eq]; omega) hclos hcell hkind hnames hx hs) ?_
  · obtain ⟨a, vs, n, rfl, ha, hPA⟩ := hv
    intro Q E k
    refine iter_list (w := w) hh (items := vs.toArray) ⟨_, ha, rfl, n, rfl⟩ Q E fun I fp wr St s' W hst hfp hwr kk => ?_
    have e : vs.toArray.size = ps.length := by rw [List.size_toArray]; exact pa_len hPA
    rw [e] at W
    exact k I fp wr St s' (walks_mono W fun i v hv => by
      obtain ⟨a, h1, h2⟩ := pa_get hPA (by rw [← List.getElem?_toArray]; exact hv)
      exact ⟨a, h1, h2⟩) hst hfp hwr kk
  · obtain ⟨a, ha, hv⟩ := hP
    rw [pOf_is hv]
    exact ht C m₃ v a hv (List.mem_of_getElem? ha) hm
  · exact Ev.mono (ev_local hm hr (lookup_relabel_local hx) hd) fun y h e => e
  · rintro v h ⟨a, ys, n, rfl, r, g, vs, hlen, hP, hF⟩
    refine ⟨a, ys, n, rfl, r, g, ?_⟩
    have h1 : PA vs ps := pa_of hlen fun i v b hv hb => by
      obtain ⟨a, ha, hva⟩ := hP i v hv
      rw [hb] at ha; cases ha; exact hva
    have h2 : PA (vs.filter fun v => (pOf v).elim false t) (ps.filter t) := pa_filter (fun v a hv => by rw [pOf_is hv]; rfl) h1
    exact pa_join (fun v y a e h => by rw [e]; exact h) hF h2
theorem ne_bools {prog : Program} {w : World} {A : Around} {E : Value → Shared → Prop} {s : Shared} {a b : Bool} {Q : Value → Shared → Prop} (h : Q (.bool (!(a == b))) s) : wpAny (model prog w) A (compareOp .NotEq (.bool a) (.bool b)) Q E s :=
  EqBoolInt.of_rcne (SeqAt.RcNeAt.bool_bool a b) h
theorem two_items (ta tb : Tok) : ∀ i : Nat, i < 2 → ∃ (r : Nat) (tr : Tok), r ∈ ([2, 3] : List Nat) ∧ 1 ≤ r ∧ ([Value.int 2 ta, Value.int 3 tb].toArray)[i]? = some (.int (r : Int) tr)
  | 0, _ => ⟨2, ta, by simp, by decide, rfl⟩
  | 1, _ => ⟨3, tb, by simp, by decide, rfl⟩
theorem rev_bytes : ∀ p : Fin 24, byteArr ((bI (PB p)).reverse) = (PB (revP p)).toArray := by decide +kernel
theorem has_true {w : World} {A : Around} {s : Shared} {k : Nat} (S : Sta w s.heap) (rm : Rm A (k + 2)) {ps : List (Fin 24)} {q : Fin 24} {l : Value} {t : Tok}
    (hl : (isO fun vs => PA vs ps).p l s.heap) (ho : ps.Pairwise (· ≤ ·)) (hz : ps.length ≤ 500) (hq : q ∈ ps) :
    Cl w A (.ref 51) [l, .bytes (PB q).toArray t] (isB true) s := by
  have := has_c (q := q) (t := t) S rm hl ho hz
  rw [decide_eq_true hq] at this
  exact this
end Mine
end

section
open PySem PySem.W PyProof.Rows PySem.Calls
set_option maxRecDepth 100000
set_option linter.unusedVariables false
set_option maxHeartbeats 1000000
namespace Mine

def cjg (x b : Fin 24) : Fin 24 := mul (mul (inv b) x) b
theorem addK_len' : ∀ (l ks : List (Fin 24)), (l.foldl addK ks).length ≤ ks.length + l.length
  | [], ks => by simp
  | a :: r, ks => by
    rw [List.foldl_cons]
    have h := addK_len' r (addK ks a)
    have h' : (addK ks a).length ≤ ks.length + 1 := by
      unfold addK
      split
      · omega
      · simp
    rw [List.length_cons]
    omega
theorem addK_nodup : ∀ (l ks : List (Fin 24)), ks.Nodup → (l.foldl addK ks).Nodup
  | [], ks, h => h
  | a :: r, ks, h => by
    rw [List.foldl_cons]
    refine addK_nodup r _ ?_
    unfold addK
    split
    · exact h
    · rename_i hn
      refine List.nodup_append.mpr ⟨h, by simp, fun x hx y hy => ?_⟩
      obtain rfl := List.mem_singleton.mp hy
      rintro rfl
      exact hn hx
theorem fr_nodup : (List.finRange 24).Nodup := by decide +kernel
theorem fr_sorted : (List.finRange 24).Pairwise (· ≤ ·) := by decide +kernel
theorem fr_all (x : Fin 24) : x ∈ List.finRange 24 := List.mem_finRange x
theorem mem_cls {l : List (Fin 24)} {x y : Fin 24} : y ∈ cls l x ↔ y ∈ (l.map (cjg x)).foldl addK [] := by
  unfold cls
  rw [List.mem_filter]
  constructor
  · exact fun h => of_decide_eq_true h.2
  · exact fun h => ⟨fr_all y, decide_eq_true h⟩
theorem cls_perm (l : List (Fin 24)) (x : Fin 24) : (cls l x).Perm ((l.map (cjg x)).foldl addK []) :=
  (List.perm_ext_iff_of_nodup (List.Pairwise.filter _ fr_nodup) (addK_nodup _ _ .nil)).mpr fun _ => mem_cls
theorem cls_sorted (l : List (Fin 24)) (x : Fin 24) : (cls l x).Pairwise (· ≤ ·) := List.Pairwise.filter _ fr_sorted
theorem cls_len (l : List (Fin 24)) (x : Fin 24) : (cls l x).length ≤ l.length := by
  rw [(cls_perm l x).length_eq]
  have := addK_len' (l.map (cjg x)) []
  rw [List.length_map] at this
  simpa using this
theorem cjg_zero : ∀ x, cjg x 0 = x := by decide +kernel
theorem self_cls {l : List (Fin 24)} (h : 0 ∈ l) (x : Fin 24) : x ∈ cls l x :=
  mem_cls.mpr ((mem_addK _ _ _).mpr (.inr (List.mem_map.mpr ⟨0, h, cjg_zero x⟩)))
theorem isLY_map {G : Fin 24 → Value → Prop} {f : Fin 24 → Fin 24} {ref h : Heap} {as : List (Fin 24)} {v : Value} (H : (isLY ref ⟨fun _ _ => False, fun b o => TG G (f b) o⟩ as).p v h) : (isLY ref (pairY G) (as.map f)).p v h := by
  obtain ⟨D, ys, n, e, r, g, q⟩ := H
  refine ⟨D, ys, n, e, r, g, pa_map (fun a b h => ?_) q⟩
  rcases h with h | ⟨T, o, e, g, q⟩
  · exact h.elim
  · exact .inr ⟨T, o, e, g, q⟩
theorem kp_builtin {id : String} {h : Heap} {M : Model} (e : keeperOf (.builtin id) = pure .machine := by rfl) : Kp M (.builtin id) h := ⟨.machine, .inr (.inl rfl), Looks.of_pure e⟩
/-- x, y = e₁, e₂, in order -/
theorem asg2n {w : World} {A : Around} {env : Env} {E : Value → Shared → Prop} {s : Shared} {e₁ e₂ : Expr} {x y : Str} {px py tp vp pos : Pos} {k k' : Nat} {Q : Flow → Shared → Prop} (hh : A.handled = none)
    (h : wpAny (model PySem.Challenge.rw_ho0001_01.row.prog w) A (eval e₁ env) (fun a s₁ => wpAny (model PySem.Challenge.rw_ho0001_01.row.prog w) A (eval e₂ env) (fun b s₂ =>
      ∀ h', Sub s₂.heap h' → wpAny (model PySem.Challenge.rw_ho0001_01.row.prog w) A (storeName env x a) (fun _ s₃ => wpAny (model PySem.Challenge.rw_ho0001_01.row.prog w) A (storeName env y b) (fun _ => Q .next) E s₃) E { s₂ with heap := h' }) E s₁) E s)
    (hs : swapsWithSole [.Tuple [.Name x px, .Name y py] k tp] (.Tuple [e₁, e₂] k' vp) pos.line env = pure false := by rfl)
    (hw : swappedStores [.Tuple [.Name x px, .Name y py] k tp] (.Tuple [e₁, e₂] k' vp) env = pure none := by rfl)
    (x₁ : starEach [e₁, e₂] env = (false, eval e₁ env) :: starEach [e₂] env := by rfl) (x₂ : starEach [e₂] env = (false, eval e₂ env) :: starEach [] env := by rfl) :
    wpAny (model PySem.Challenge.rw_ho0001_01.row.prog w) A (exec (.Assign [.Tuple [.Name x px, .Name y py] k tp] (.Tuple [e₁, e₂] k' vp) pos) env) Q E s := by
  refine Assign_Tuple (tup2 (wpAny_mono h (fun a s₁ h₁ => wpAny_mono h₁ (fun b s₂ h₂ => ?_) fun _ _ x => x) fun _ _ x => x) x₁ x₂) hs hw
  obtain ⟨H, hH⟩ : ∃ H, H = s₂.heap.push { cls := .type "tuple", data := .seq #[a, b] } := ⟨_, rfl⟩
  have ht : IsTup H s₂.heap.objs.size #[a, b] := by subst hH; exact ⟨_, Heap.get?_push_size _ rfl, rfl, 0, rfl⟩
  have kH : Sub s₂.heap H := by subst hH; exact fun b' o e => Heap.get?_push_of_some _ e
  rw [← hH]
  refine assign_Tuple_tuple (s := { s₂ with heap := H }) hh ht (by rfl) (by rfl) fun h' hx => ?_
  have k : Sub s₂.heap h' := fun b' o e => hx b' o (Nat.ne_of_lt (Heap.lt_size (kH _ _ e))) (kH _ _ e)
  show wpAny _ A (assignInOrder [assign (.Name x px) env, assign (.Name y py) env] [a, b]) _ E _
  refine PyProof.Rows.assignInOrder_cons (wpAny_assign_Name (wpAny_mono (h₂ h' k) (fun _ s₃ h₃ => ?_) fun _ _ x => x))
  exact PyProof.Rows.assignInOrder_cons (wpAny_assign_Name (wpAny_mono h₃ (fun _ s₄ h₄ => PyProof.Rows.assignInOrder_nil h₄) fun _ _ x => x))
/-- what stands while the kinds are told -/
structure WI (Z : LK) (Kk : Addr) (ms : List (Fin 24)) (h : Heap) (m cm : Str → Option Value) (Lf : Addr) (left : List (Fin 24)) (ks : List Nat) (f : Nat) : Prop where
  Y : LS Z h m cm
  d6 : cm (Str.ofString "left") = some (.ref Lf)
  m10 : m (Str.ofString "kinds") = some (.ref Kk)
  gL : ∃ vl nl, h.get? Lf = some (PySem.W.listOf (vl : List Value).toArray nl) ∧ PA vl left
  oL : OffO Z.L Z.cs Lf
  LfK : Lf ≠ Kk
  gK : ∃ vk nk, h.get? Kk = some (PySem.W.listOf (vk : List Value).toArray nk) ∧ IA vk (ks.map fun (n : Nat) => (n : Int))
  le : left.length ≤ f
  kin : ks ++ kindsOf ms f left = kindsOf ms ms.length ms
  few : ks.length + left.length ≤ ms.length
theorem WI.sub {Z : LK} {Kk : Addr} {ms : List (Fin 24)} {h h' : Heap} {m cm : Str → Option Value} {Lf : Addr} {left : List (Fin 24)} {ks : List Nat} {f : Nat} (V : WI Z Kk ms h m cm Lf left ks f) (k : Sub h h') : WI Z Kk ms h' m cm Lf left ks f :=
  { V with Y := V.Y.sub k, gL := by obtain ⟨vl, nl, g, q⟩ := V.gL; exact ⟨vl, nl, k _ _ g, q⟩, gK := by obtain ⟨vl, nl, g, q⟩ := V.gK; exact ⟨vl, nl, k _ _ g, q⟩ }
end Mine
end

section
open PySem PySem.W PyProof.Rows PySem.Calls
set_option maxRecDepth 100000
set_option linter.unusedVariables false
set_option maxHeartbeats 1000000
namespace Mine

section
variable {w : World} {A : Around} {E : Value → Shared → Prop} {s : Shared} {env : Env} {α : Type} {m : Str → Option Value} {h₀ : Heap}
theorem env_cell {scope : Scope} {cl : List (Str × Addr)} {x : Str} {M : Model} {Q : Env → Shared → Prop} (hone : ∀ n, cellsFrom n scope.names cl = (x, n) :: cl) (hpush : ∀ h : Heap, pushCells h scope.names = h.push { cls := .type "cell", data := .cell none })
    (hQ : ∀ h', Sub s.heap h' → h'.Ns s.heap.objs.size (fun _ => none) → h'.IsCell (s.heap.objs.size + 1) none → Q (newEnv scope s.heap.objs.size env.globals ((x, s.heap.objs.size + 1) :: cl) env.qual none .none (some env) builtinsNs) { s with heap := h' }) :
    wpAny M A (newFunctionEnv scope env.globals cl [] env.qual none .none (some env)) Q E s := by
  simp only [newFunctionEnv, Option.isSome_some, if_true]
  refine wpAny_bind (wpAny_alloc ?_)
  refine wpAny_bind (wpAny_layCells _ (fun name kind cells => by cases hkc : kind == NameKind.cell <;> simp [hkc]) _ _ _ _ ?_)
  rw [hone, hpush]
  refine wpAny_bind ?_
  rw [List.forIn_nil]
  refine wpAny_pure (wpAny_pure ?_)
  have e : ({ s with heap := s.heap.push { cls := .type "dict", data := .dict #[] } } : Shared).heap.objs.size = s.heap.objs.size + 1 := Heap.size_push ..
  rw [e]
  refine hQ _ (fun b o e => Heap.get?_push_of_some _ (Heap.get?_push_of_some _ e)) ((Heap.Ns.new s.heap (.type "dict")).keeps fun b o e => Heap.get?_push_of_some _ e) ?_
  have g : ((s.heap.push { cls := .type "dict", data := .dict #[] }).push { cls := .type "cell", data := .cell none }).get? (s.heap.push { cls := .type "dict", data := .dict #[] }).objs.size = some { cls := .type "cell", data := .cell none } := Heap.get?_push_size _ rfl
  rw [Heap.size_push] at g
  exact ⟨_, g, rfl⟩
theorem c_blockC {iter : Expr} {x : Str} {px py : Pos} {ifs : List Expr} {scope : Scope} {cl : List (Str × Addr)} {pos : Pos} {use : Option (Value → Sem Unit)} {Q : Value → Shared → Prop} {M : Addr} {vs : List Value} {nM : Nat} {ps : List α} {P : Value → α → Prop}
    (p : α → Bool) (hh : A.handled = none) (hone : ∀ n, cellsFrom n scope.names cl = (x, n) :: cl) (hpush : ∀ h : Heap, pushCells h scope.names = h.push { cls := .type "cell", data := .cell none }) (hkind : (relabel scope env).kind = .function) (hx : (relabel scope env).names.lookup x = some .cell) (hd : (x == ("__debug__" : Str)) = false)
    (hM : s.heap.get? M = some (PySem.W.listOf vs.toArray nM)) (hP : Paired P vs ps) (hz : ps.length ≤ 1000)
    (ht : ∀ C c h m v a, P v a → Sub s.heap h → h.IsCell c (some v) → Trs w A (compEnvC scope ((x, c) :: cl) C env) h m ifs (p a))
    (fin : ∀ D C m h' tk ys n', s.heap.get? D = none → s.heap.get? C = none → D ≠ C → Sub s.heap h' → h'.get? D = some (PySem.W.listOf ys.toArray n') → Paired P ys (ps.filter p) → h'.Ns C m →
      cFin (model PySem.Challenge.rw_ho0001_01.row.prog w) A E use Q (.ref D) C { s with heap := h', toks := tk }) :
    wpAny (model PySem.Challenge.rw_ho0001_01.row.prog w) A (pyIter (.ref M)) (fun it s₃ => wpAny (model PySem.Challenge.rw_ho0001_01.row.prog w) A (newList []) (fun acc s₄ =>
      wpAny (model PySem.Challenge.rw_ho0001_01.row.prog w) A (newFunctionEnv scope env.globals cl [] env.qual none .none (some env)) (fun cenv s₅ =>
        codeC (model PySem.Challenge.rw_ho0001_01.row.prog w) A (.compStart (.ListComp (.Name x py) [⟨.Name x px, iter, ifs, 0⟩] scope pos) 0 it acc { cenv with scope := relabel scope env }) (cPost (model PySem.Challenge.rw_ho0001_01.row.prog w) A E use Q acc cenv.locals) s₅) E s₄) E s₃) E s := by
  refine pyiterL hM fun I h₃ k₃ rI it₃ => ?_
  refine wpAny_newList ?_
  obtain ⟨h₄, e₄⟩ : ∃ H, H = h₃.push { cls := .type "list", data := .seq ([] : List Value).toArray } := ⟨_, rfl⟩
  dsimp only
  rw [← e₄]
  have k₄ : Sub h₃ h₄ := by subst e₄; exact fun b o e => Heap.get?_push_of_some _ e
  have gD : h₄.get? h₃.objs.size = some (PySem.W.listOf ([] : List Value).toArray 0) := by subst e₄; exact Heap.get?_push_size _ rfl
  have rD : h₃.get? h₃.objs.size = none := new_none _
  generalize h₃.objs.size = D at gD rD ⊢
  clear e₄
  refine env_cell hone hpush fun h₅ k₅ hns₅ hc₅ => ?_
  dsimp only at hns₅ hc₅ k₅ ⊢
  have rC : h₄.get? h₄.objs.size = none := new_none _
  have rc : h₄.get? (h₄.objs.size + 1) = none := by
    cases e : h₄.get? (h₄.objs.size + 1) with
    | none => rfl
    | some o => exact absurd (Heap.lt_size e) (Nat.not_lt.mpr (Nat.le_succ _))
  have Cc : h₄.objs.size ≠ h₄.objs.size + 1 := Nat.ne_of_lt (Nat.lt_succ_self _)
  generalize h₄.objs.size + 1 = c at hc₅ rc Cc ⊢
  generalize h₄.objs.size = C at hns₅ rC Cc ⊢
  have lI : ∃ o, h₃.get? I = some o := by obtain ⟨o, ho, _⟩ := it₃; exact ⟨o, ho⟩
  obtain ⟨oI, gI⟩ := lI
  have ID : I ≠ D := ne_of_get gI rD
  have IC : I ≠ C := ne_of_get (k₄ _ _ gI) rC
  have DC : D ≠ C := ne_of_get gD rC
  have Ic : I ≠ c := ne_of_get (k₄ _ _ gI) rc
  have Dc : D ≠ c := ne_of_get gD rc
  have MI : M ≠ I := ne_of_get hM rI
  have MD : M ≠ D := ne_of_get (k₃ _ _ hM) rD
  have MC : M ≠ C := ne_of_get (k₄ _ _ (k₃ _ _ hM)) rC
  have sI : s.heap.get? I = none := rI
  have sD : s.heap.get? D = none := none_of_sub k₃ rD
  have sC : s.heap.get? C = none := none_of_sub (Sub.trans k₃ k₄) rC
  have sc : s.heap.get? c = none := none_of_sub (Sub.trans k₃ k₄) rc
  have old : ∀ {h h' : Heap} {b : Addr}, Sub s.heap h → Heap.ExtBut b h h' → s.heap.get? b = none → Sub s.heap h' := fun k x n c o e => x c o (by rintro rfl; rw [n] at e; cases e) (k c o e)
  have lens := pa_len hP
  have it₅ : h₅.IsListIter I M 0 := it₃.at fun o e => k₅ _ _ (k₄ _ _ e)
  have K₅ : Sub s.heap h₅ := Sub.trans k₃ (Sub.trans k₄ k₅)
  have W := Walks.list (prog := PySem.Challenge.rw_ho0001_01.row.prog) (w := w) (A := A) hh I M (Ne.symm MI).symm vs.toArray
  have lk : (compEnvC scope ((x, c) :: cl) C env).cells.lookup x = some c := by
    show List.lookup x ((x, c) :: cl) = some c
    rw [List.lookup_cons, beq_self_eq_true]
  have loop : ∀ s₅ : Shared, s₅ = { s with heap := h₅ } →
      codeC (model PySem.Challenge.rw_ho0001_01.row.prog w) A (.compLoop (.ListComp (.Name x py) [⟨.Name x px, iter, ifs, 0⟩] scope pos) 0 (.ref I) (.ref D) (compEnvC scope ((x, c) :: cl) C env)) (cPost (model PySem.Challenge.rw_ho0001_01.row.prog w) A E use Q (.ref D) C) s₅ := by
    rintro s₅ rfl
    refine codeC_compLoop (fun n s' => ∃ h tk i ys n', s' = { s with heap := h, toks := tk } ∧ Sub s.heap h ∧ h.Ns C (fun _ => none) ∧ (∃ v₀, h.IsCell c v₀) ∧ h.IsListIter I M i ∧ h.get? D = some (PySem.W.listOf ys.toArray n') ∧ Paired P ys ((ps.take i).filter p) ∧ i ≤ ps.length ∧ n = ps.length + 1 - i) ?_ (ps.length + 1)
      ⟨h₅, _, 0, [], 0, rfl, K₅, hns₅, ⟨_, hc₅⟩, it₅, k₅ _ _ gD, .nil, Nat.zero_le _, rfl⟩
    rintro n _ ⟨h, tk, i, ys, n', rfl, K, ns, ⟨v₀, oc, gc, qc⟩, it, gD, hY, hi, rfl⟩
    have hylen : ys.length ≤ i := by
      rw [pa_len hY]
      exact Nat.le_trans (List.length_filter_le _ _) (by rw [List.length_take]; omega)
    cases hv : vs.toArray[i]? with
    | none =>
      rw [List.getElem?_toArray, List.getElem?_eq_none_iff] at hv
      refine wpAny_pyNext_list_end hh it ⟨_, K _ _ hM, rfl, nM, rfl⟩ (by rw [List.getElem?_toArray, List.getElem?_eq_none_iff]; exact hv) fun h' x' => ?_
      rw [List.take_of_length_le (by omega)] at hY
      refine fin D C _ h' tk ys n' sD sC DC (old K x' sI) (x' _ _ (Ne.symm ID) gD) hY (ns.extBut x' (Ne.symm IC))
    | some v =>
      rw [List.getElem?_toArray] at hv
      obtain ⟨a, ha, hPa⟩ := pa_get hP hv
      have hlt : i < ps.length := by
        by_cases q : i < ps.length
        · exact q
        · rw [List.getElem?_eq_none (by omega)] at ha; cases ha
      refine wpAny_pyNext_list_item it ⟨_, K _ _ hM, rfl, nM, rfl⟩ (by rw [List.getElem?_toArray]; exact hv) fun h₆ it₆ s₆ => ?_
      have x₆ := s₆.extBut
      have cell₆ : h₆.IsCell c v₀ := ⟨oc, x₆ _ _ (Ne.symm Ic) gc, qc⟩
      refine wpAny_assign_Name (wpAny_storeName_cell (env := compEnvC scope ((x, c) :: cl) C env) hkind hx lk cell₆ fun h₇ cell₇ s₇ => ?_)
      have x₇ : Heap.ExtBut c h₆ h₇ := s₇.extBut
      have K₇ : Sub s.heap h₇ := old (old K x₆ sI) x₇ sc
      have it₇ := iter_ext it₆ x₇ Ic
      have gD₇ := x₇ _ _ Dc (x₆ _ _ (Ne.symm ID) gD)
      have ns₇ := (ns.extBut x₆ (Ne.symm IC)).extBut x₇ Cc
      refine wpAny_mono (ht C c h₇ _ v a hPa K₇ cell₇ _ _ ⟨Sub.refl _, ns₇⟩) (fun ok s₈ h₈ => ?_) fun _ _ x => x
      obtain ⟨rfl, h₈, t₈, rfl, k₈⟩ := h₈
      have htake : (ps.take (i + 1)).filter p = (ps.take i).filter p ++ (if p a then [a] else []) := by
        rw [List.take_add_one, ha, List.filter_append]
        cases h : p a <;> simp [h]
      have cell₈ := cell₇.keeps k₈
      cases hpa : p a with
      | false =>
        rw [hpa, if_neg Bool.false_ne_true, List.append_nil] at htake
        rw [if_neg Bool.false_ne_true]
        exact ⟨ps.length + 1 - (i + 1), by omega, h₈, t₈, i + 1, ys, n', rfl, Sub.trans K₇ k₈, ns₇.keeps k₈, ⟨_, cell₈⟩, it₇.at fun o e => k₈ _ _ e, k₈ _ _ gD₇, by rw [htake]; exact hY, hlt, rfl⟩
      | true =>
        rw [hpa, if_pos rfl] at htake
        rw [if_pos rfl]
        refine wpC_any (Ev.use (ref := h₈) (m := fun _ => none) (ev_cell (c := c) lk cell₈ hkind hx hd) ⟨Sub.refl _, ns₇.keeps k₈⟩ fun y s₉ hy k₉ => ?_)
        obtain rfl := hy
        obtain ⟨h₉, t₉, rfl, k₉⟩ := k₉
        have gD₉ := k₉ _ _ (k₈ _ _ gD₇)
        refine append_at gD₉ (fun h₁₀ s₁₀ gD₁₀ => ?_) (by rw [List.size_toArray, sizeLine_eq]; omega)
        have x₁₀ := s₁₀.extBut
        have K₉ : Sub s.heap h₉ := Sub.trans K₇ (Sub.trans k₈ k₉)
        have cell₉ := cell₈.keeps k₉
        obtain ⟨o₉, g₉, q₉⟩ := cell₉
        refine ⟨ps.length + 1 - (i + 1), by omega, h₁₀, _, i + 1, ys ++ [y], n' + 1, rfl, old K₉ x₁₀ sD, ((ns₇.keeps k₈).keeps k₉).extBut x₁₀ (Ne.symm DC), ⟨_, o₉, x₁₀ _ _ (Ne.symm Dc) g₉, q₉⟩, iter_ext ((it₇.at fun o e => k₈ _ _ e).at fun o e => k₉ _ _ e) x₁₀ ID, by rw [gD₁₀]; simp [PySem.W.listOf], ?_, hlt, rfl⟩
        rw [htake]
        exact pa_append hY (.cons hPa .nil)
  exact codeC_compStart (loop _ rfl) (W.self 0 _ _ _ ⟨it₅, ⟨_, K₅ _ _ hM, rfl, nM, rfl⟩⟩ (loop _ rfl))
theorem c_asgcompC {name : Str} {fs : Scope} {L fa : Addr} {cd : Value} {fcl : List (Str × Addr)} {iter : Expr} {x y : Str} {px pe py : Pos} {ifs : List Expr} {scope : Scope} {cl : List (Str × Addr)} {pos spos : Pos} {Q : Flow → Shared → Prop} {ps : List α} {P : Value → α → Prop}
    (p : α → Bool) (hh : A.handled = none) (F : Fr h₀ L s.heap m) (Hi : Ev w A (envX name fs L fa cd fcl) s.heap m iter (isO fun vs => Paired P vs ps)) (hz : ps.length ≤ 1000)
    (ht : ∀ C c h m v a, P v a → Sub s.heap h → h.IsCell c (some v) → Trs w A (compEnvC scope ((x, c) :: cl) C (envX name fs L fa cd fcl)) h m ifs (p a))
    (k : ∀ D ys n' h' tk, s.heap.get? D = none → Heap.ExtBut L s.heap h' → Fr h₀ L h' (upd m y (.ref D)) → h'.get? D = some (PySem.W.listOf ys.toArray n') → Paired P ys (ps.filter p) → Q .next { s with heap := h', toks := tk })
    (hsw : swapsWith (.ListComp (.Name x pe) [⟨.Name x px, iter, ifs, 0⟩] scope pos) (some (.Name y py)) spos.line (envX name fs L fa cd fcl) = pure true := by rfl)
    (hclos : closureFor scope (envX name fs L fa cd fcl) = pure cl := by rfl) (hone : ∀ n, cellsFrom n scope.names cl = (x, n) :: cl := by intro _; rfl) (hpush : ∀ h : Heap, pushCells h scope.names = h.push { cls := .type "cell", data := .cell none } := by intro _; rfl) (hd : (x == ("__debug__" : Str)) = false := by decide) (hkind : scope.kind = .function := by rfl)
    (hnames : ∀ y ∈ scope.names, y.2 = .local → scope.names.lookup y.1 = some .local := by decide) (hkr : (relabel scope (envX name fs L fa cd fcl)).kind = .function := by rfl) (hx : (relabel scope (envX name fs L fa cd fcl)).names.lookup x = some .cell := by rfl)
    (hs : ∀ x, foldedSetIterable iter (envX name fs L fa cd fcl) x = pure x := by intro _; rfl)
    (hk : fs.kind = .function := by rfl) (hy : (envX name fs L fa cd fcl).kindOf y = some .local := by rfl) :
    wpC (model PySem.Challenge.rw_ho0001_01.row.prog w) A (exec (.Assign [.Name y py] (.ListComp (.Name x pe) [⟨.Name x px, iter, ifs, 0⟩] scope pos) spos) (envX name fs L fa cd fcl)) Q E s := by
  rw [exec_Assign_Name_used _ _ _ _ hsw]
  refine wpC_standAt (wpC_bind ?_)
  show wpC _ A (do let _ ← comprehension (.ListComp (.Name x pe) [⟨.Name x px, iter, ifs, 0⟩] scope pos) scope (envX name fs L fa cd fcl) _ (newList []) false (eval iter (envX name fs L fa cd fcl)) (some (assign (.Name y py) (envX name fs L fa cd fcl)))) _ _ s
  refine wpC_bind (wpC_mono (wpC_comp (use := some (assign (.Name y py) (envX name fs L fa cd fcl))) (Q := fun _ s' => Q .next s') rfl hs hclos hkind hnames (wpC_any (Hi.use ⟨Sub.refl _, F.ns⟩ fun v s₁ hv kk => ?_))) (fun _ s' hq => wpC_pure (wpC_pure hq)) fun _ _ e => e)
  obtain ⟨M, vs, nM, rfl, hM, hP⟩ := hv
  obtain ⟨h₁, t₁, rfl, k₁⟩ := kk
  have F₁ := F.keptAll k₁
  refine c_blockC p hh hone hpush hkr hx hd hM hP hz (fun C c h m v a h1 h2 h3 => ht C c h m v a h1 (Sub.trans k₁ h2) h3) ?_
  rintro D C m' h' tk ys n' rD rC DC K gD hY ns
  have lL : ∃ o, h₁.get? L = some o := by obtain ⟨oL, _, _, hL, _⟩ := F₁.ns; exact ⟨oL, hL⟩
  obtain ⟨oL, gL⟩ := lL
  have LD : L ≠ D := ne_of_get gL rD
  have LC : L ≠ C := ne_of_get gL rC
  show wpAny _ A (assign (.Name y py) (envX name fs L fa cd fcl) (.ref D)) _ _ _
  refine wpAny_assign_Name (storeL (F₁.keptAll K) (fun h₂ t₂ F₂ x₂ => ?_) hk hy)
  refine ⟨m', ns.extBut x₂ (Ne.symm LC), fun h₃ s₃ => ?_⟩
  have x₃ := s₃.extBut
  have nC : h₀.get? C = none := none_of_sub F₁.keep rC
  refine k D ys n' h₃ _ (none_of_sub k₁ rD) (fun b o hb e => x₃ b o (by rintro rfl; rw [k₁ _ _ e] at rC; cases rC) (x₂ b o hb (K b o (k₁ b o e)))) (fr_ext F₂ (Ne.symm LC) nC x₃) (x₃ _ _ DC (x₂ _ _ (Ne.symm LD) gD)) hY
end
end Mine
end

section
open PySem PySem.W PyProof.Rows PySem.Calls
set_option maxRecDepth 100000
set_option linter.unusedVariables false
set_option maxHeartbeats 1000000
namespace Mine

theorem turn_bytes : ∀ p : Fin 24, byteArr ((bI (PB (revP p))).map fun n => 3 - n) = (PB (turnP p)).toArray := by decide +kernel
theorem turn_small : ∀ p : Fin 24, ∀ n ∈ (bI (PB (revP p))).map fun n => 3 - n, 0 ≤ n ∧ n < 256 := by decide +kernel
theorem turn_len : ∀ p : Fin 24, ((bI (PB (revP p))).map fun n => 3 - n).length ≤ 1000 := by decide +kernel
theorem pb_len : ∀ p : Fin 24, (PB p).length ≤ 1000 := by decide +kernel
theorem count_cast : ∀ (l : List Nat), (l.map fun (n : Nat) => (n : Int)).count 1 = l.count 1
  | [] => rfl
  | a :: r => by
    rw [List.map_cons, List.count_cons, List.count_cons, count_cast r]
    congr 1
    by_cases h : a = 1
    · subst h; rfl
    · rw [if_neg (by rw [beq_iff_eq]; omega), if_neg (by rw [beq_iff_eq]; omega)]
section
variable {w : World} {A : Around} {E : Value → Shared → Prop} {s : Shared} {env : Env} {m : Str → Option Value} {ref : Heap} {R : VP}
/-- a list, however else it is made -/
def isA (P : List Value → Prop) : VP := ⟨fun v h => ∃ a vs, v = .ref a ∧ h.IsList a (vs : List Value).toArray ∧ P vs, fun v h h' x k => by obtain ⟨a, vs, e, ⟨o, ho, r⟩, q⟩ := x; exact ⟨a, vs, e, ⟨o, k _ _ ho, r⟩, q⟩⟩
theorem ev_sliceA (sw : Bool) {e : Expr} {lo hi st : Option Expr} {i j q : Option Int} {p p' : Pos} {P : List Value → Prop} (H : Ev w A env ref m e (isA P)) (H₁ : EvO w A env ref m lo i) (H₂ : EvO w A env ref m hi j) (H₃ : EvO w A env ref m st q) (hz : ∀ vs, P vs → vs.length ≤ 1000) (hq : q ≠ some 0)
    (hs : ∀ (o x : Value), subscripted (.Slice lo hi st p) false o x = operate (if sw then [x, o] else [o, x]) (getItem o x) := by intro _ _; with_unfolding_all rfl) :
    Ev w A env ref m (.Subscript e (.Slice lo hi st p) p') (isL ref fun ys => ∃ vs, P vs ∧ ys = (slicePick vs.toArray i j q).toList) := fun s E F => by
  refine Subscript_ (H.use F fun a s₁ ha k₁ => ?_)
  refine wpAny_Slice (H₁.use (F.keeps (ksub k₁)) fun vl s₂ hl k₂ => H₂.use (F.keeps (ksub (ktrans k₁ k₂))) fun vu s₃ hu k₃ => H₃.use (F.keeps (ksub (ktrans k₁ (ktrans k₂ k₃)))) fun vs s₄ hv k₄ => ?_)
  have kk := ktrans k₁ (ktrans k₂ (ktrans k₃ k₄))
  obtain ⟨l, its, rfl, ⟨ol, hits, hcl, n, hdl⟩, hP⟩ := (isA P).st _ _ _ ha (ksub (ktrans k₂ (ktrans k₃ k₄)))
  have z := hz _ hP
  obtain ⟨H, hH⟩ : ∃ H, H = s₄.heap.push { cls := .type "slice", data := .fields #[vl, vu, vs] } := ⟨_, rfl⟩
  have kH : Sub s₄.heap H := by subst hH; exact fun b o e => Heap.get?_push_of_some _ e
  have hS : H.IsSliceOf s₄.heap.objs.size vl vu vs := by subst hH; exact Heap.IsSliceOf.new ..
  rw [← hH]
  refine tail_any (s := { s₄ with heap := H }) ⟨_, kH _ _ hits, hcl⟩ slot_list_getitem.lookup (wpAny_getItem_list_slice (s := { s₄ with heap := H }) (items := its.toArray) ⟨_, kH _ _ hits, hcl, n, hdl⟩ hS hl hu hv hq ?_ (by rw [List.size_toArray, sizeLine_eq]; omega)) (hs _ _)
  refine ⟨⟨_, (slicePick its.toArray i j q).toList, 0, rfl, none_of_sub (F.keeps (ksub kk)).keep (none_of_sub kH (new_none H)), ?_, its, hP, rfl⟩, ktrans kk (kof fun b o e => Heap.get?_push_of_some _ (kH _ _ e))⟩
  exact Heap.get?_push_size _ rfl
/-- the first ones of a list -/
theorem ev_uptoA {e : Expr} {p p' p'' : Pos} {P : List Value → Prop} {k n : Nat} (H : Ev w A env ref m e (isA P)) (hz : ∀ vs, P vs → vs.length ≤ 1000) :
    Ev w A env ref m (.Subscript e (.Slice none (some (.Constant (.int (n : Int)) k p)) none p') p'') (isL ref fun ys => ∃ vs, P vs ∧ ys = vs.take n) := by
  refine Ev.mono (ev_sliceA true (i := none) (j := some (n : Int)) (q := none) H trivial ev_int trivial hz (by simp)) ?_
  rintro v h ⟨a, ys, c, rfl, q, g, vs, hP, rfl⟩
  exact ⟨a, _, c, rfl, q, g, vs, hP, by rw [slicePick_upto']⟩
theorem comp_first {e : Expr} {scope : Scope} {pos : Pos} {newAcc first : Sem Value} {use : Option (Value → Sem Unit)} {M : Model} {Q : Value → Shared → Prop}
    (h : wpC M A first (fun x s₁ => wpAny M A (comprehension e scope env pos newAcc false (pure x) use) Q E s₁) E s) : wpC M A (comprehension e scope env pos newAcc false first use) Q E s := by
  unfold comprehension
  refine wpC_bind (wpC_mono h (fun x s₁ h₁ => wpC_any ?_) fun _ _ h' => h')
  unfold comprehension at h₁
  rw [pure_bind] at h₁
  exact h₁
theorem c_compB {elt iter : Expr} {x : Str} {px : Pos} {scope : Scope} {cl : List (Str × Addr)} {pos : Pos} {Q : Value → Shared → Prop} {b : List UInt8} (g : Int → Int) (hh : A.handled = none)
    (Fr' : Fm ref env.locals m s.heap) (Hi : ∀ Q', (∀ t s', Keeps s s' → Q' (.bytes b.toArray t) s') → wpC (model PySem.Challenge.rw_ho0001_01.row.prog w) A (eval iter env) Q' E s)
    (he : ∀ C m₃ v n, vI v n → m₃ x = some v → Ev w A (compEnvC scope cl C env) ref m₃ elt (isI (g n))) (hz : b.length ≤ 1000)
    (k : ∀ l s', Keeps s s' → (isL ref fun ys => IA ys ((bI b).map g)).p l s'.heap → Q l s')
    (hclos : closureFor scope env = pure cl := by rfl) (hcell : ∀ y ∈ scope.names, y.2 ≠ .cell := by decide) (hkind : scope.kind = .function := by rfl)
    (hnames : ∀ y ∈ scope.names, y.2 = .local → scope.names.lookup y.1 = some .local := by decide) (hx : scope.names.lookup x = some .local := by rfl)
    (hs : ∀ x, foldedSetIterable iter env x = pure x := by intro _; rfl) :
    wpC (model PySem.Challenge.rw_ho0001_01.row.prog w) A (eval (.ListComp elt [⟨.Name x px, iter, [], 0⟩] scope pos) env) Q E s := by
  rw [eval_ListComp]
  refine comp_first (Hi _ fun t s₁ k₁ => ?_)
  refine wpAny_comprehension_free (use := none) rfl hs hclos hkind hnames (wpAny_pure (iter_bytes hh _ _ fun I fp wr St s₂ W hst hfp hwr k₂ => ?_))
  have kk := ktrans k₁ k₂
  have out : ∀ b o, ref.get? b = some o → b ∉ wr := fun b o e hb => by
    have := hwr b hb
    rw [(Fr'.keeps (ksub k₁)).keep b o e] at this
    cases this
  refine comp_block_walkC (RR := fun acc C => compPost (model PySem.Challenge.rw_ho0001_01.row.prog w) A E none Q acc C) W (by rw [List.size_toArray, sizeLine_eq]; omega) (fun _ => true) (fun v y => ∀ n, vI v n → vI y (g n)) hcell hkind hx hst hfp ⟨?_, ?_⟩ ?_
  · intro C i v s₃ m₃ E' _ hP hns hm hk _
    exact trs_nil s₃ E' (⟨fun b o e => hk b o (out b o e) ((Fr'.keeps (ksub kk)).keep b o e), hns⟩ : Fm ref _ _ _)
  · intro C i v s₃ m₃ E' _ hP hp hns hm hk _
    obtain ⟨c, u, hc, rfl⟩ := hP
    exact wpAny_mono (he C m₃ _ _ ⟨_, rfl⟩ hm s₃ E' ⟨fun b o e => hk b o (out b o e) ((Fr'.keeps (ksub kk)).keep b o e), hns⟩) (fun y s₄ z => ⟨fun n hn => by obtain ⟨_, hn⟩ := hn; cases hn; exact z.1, z.2⟩) fun _ _ z => z
  · intro D C h' tk m' ys vs hD hC hDC hn hl hpl hlen hP hF hk
    refine ⟨m', hn, fun h'' hs'' => ?_⟩
    have x'' := hs''.extBut
    obtain ⟨nn, hpl⟩ := hpl.extBut x'' hDC
    have K'' : ∀ b o, b ∉ wr → s₂.heap.get? b = some o → h''.get? b = some o := fun b o hb e => x'' b o (by rintro rfl; rw [hC] at e; cases e) (hk b o hb e)
    refine k _ _ ?_ ⟨D, ys.toList, nn, rfl, none_of_sub (Fr'.keeps (ksub kk)).keep hD, by simpa using hpl, ?_⟩
    · obtain ⟨h₂, t₂, rfl, e₂⟩ := kk
      refine kof fun b o e => K'' b o (fun hb => ?_) (e₂ b o e)
      have := hwr b hb
      rw [(ksub k₁) b o e] at this
      cases this
    · rw [List.filter_eq_self.mpr (fun _ _ => rfl)] at hF
      have h1 : IA vs (bI b) := pa_of (by rw [hlen]; simp [bI]) fun i v n hv hn => by
        obtain ⟨c, u, hc, rfl⟩ := hP i v hv
        rw [List.getElem?_toArray] at hc
        have : n = (c.toNat : Int) := by simpa [bI, hc] using hn.symm
        exact ⟨_, by rw [this]⟩
      exact pa_map (f := g) (H := fun y n => vI y n) (fun y n h => h) (pa_join (H := fun y n => vI y (g n)) (fun v y a e h => e a h) hF h1)
/-- none of a list's ints -/
theorem ev_comp0 {elt iter : Expr} {x : Str} {px : Pos} {ifs : List Expr} {scope : Scope} {cl : List (Str × Addr)} {pos : Pos} {ks : List Nat} (hh : A.handled = none)
    (Hi : Ev w A env ref m iter (isO fun vs => IA vs (ks.map fun (n : Nat) => (n : Int)))) (ht : ∀ C m₃ v (n : Nat), n ∈ ks → vI v n → m₃ x = some v → Trs w A (compEnvC scope cl C env) ref m₃ ifs false) (hz : ks.length ≤ 1000)
    (hclos : closureFor scope env = pure cl := by rfl) (hcell : ∀ y ∈ scope.names, y.2 ≠ .cell := by decide) (hkind : scope.kind = .function := by rfl)
    (hnames : ∀ y ∈ scope.names, y.2 = .local → scope.names.lookup y.1 = some .local := by decide) (hx : scope.names.lookup x = some .local := by rfl)
    (hs : ∀ x, foldedSetIterable iter env x = pure x := by intro _; rfl) :
    Ev w A env ref m (.ListComp elt [⟨.Name x px, iter, ifs, 0⟩] scope pos) (isL ref fun ys => PA ys []) := by
  refine Ev.mono (ev_comp (n := ks.length) (P := fun i v => ∃ n, n ∈ ks ∧ vI v (n : Nat)) (fun v => false) (fun v y => y = v) Hi (fun s v F hv => ?_) (fun C m₃ i v hP hm => ?_) (fun C m₃ i v hP hp hm => nomatch hp) (by rw [sizeLine_eq]; omega) hclos hcell hkind hnames hx hs) ?_
  · obtain ⟨a, vs, n, rfl, ha, hI⟩ := hv
    intro Q E k
    refine iter_list (w := w) hh (items := vs.toArray) ⟨_, ha, rfl, n, rfl⟩ Q E fun I fp wr St s' W hst hfp hwr kk => ?_
    have e : vs.toArray.size = ks.length := by rw [List.size_toArray, pa_len hI, List.length_map]
    rw [e] at W
    exact k I fp wr St s' (walks_mono W fun i v hv => by
      obtain ⟨a, h1, h2⟩ := pa_get hI (by rw [← List.getElem?_toArray]; exact hv)
      obtain ⟨n, hn, rfl⟩ := List.mem_map.mp (List.mem_of_getElem? h1)
      exact ⟨n, hn, h2⟩) hst hfp hwr kk
  · obtain ⟨n, hn, hv⟩ := hP
    exact ht C m₃ v n hn hv hm
  · rintro v h ⟨a, ys, n, rfl, r, g, vs, hlen, hP, hF⟩
    rw [List.filter_eq_nil_iff.mpr (by simp)] at hF
    exact ⟨a, ys, n, rfl, r, g, by cases hF; exact .nil⟩
theorem ev_count {o e : Expr} {apos pos : Pos} {Kk : Addr} {vk : List Value} {nk : Nat} {ns : List Int} {c : Int} (Ho : Ev w A env ref m o (eqv (.ref Kk))) (He : Ev w A env ref m e (isI c)) (g : ref.get? Kk = some (PySem.W.listOf vk.toArray nk)) (hI : IA vk ns)
    {pl : Sem Bool}
    (he : eval (.Call (.Attribute o (Str.ofString "count") apos) [e] [] pos) env = (do
      let ov ← eval o env
      standAt apos.atName
      let (f, first) ← holding [ov] (getMethod ov (Str.ofString "count") pl)
      callWith pos f first (backTo pos (starEach [e] env)) []) := by rfl)
    (x₁ : starEach [e] env = (false, eval e env) :: starEach [] env := by rfl) : Ev w A env ref m (.Call (.Attribute o (Str.ofString "count") apos) [e] [] pos) (isI (ns.count c : Nat)) := fun s E F =>
  use_meth1 (T := "list") (id := "list.count") (ov := .ref Kk) Ho He F (fun s' k => ⟨_, k _ _ g, rfl⟩) PySem.F.plainAttrs_list PySem.F.slot_list_count PySem.F.type_list_count (fun s' k a e => by cases e; exact ⟨_, k _ _ g, rfl⟩)
    (fun a s' kk ha => by
      obtain ⟨_, rfl⟩ := ha
      exact (cl_count (isO_at ((F.keeps (ksub kk)).keep _ _ g) hI)).use fun v s'' hv k => ⟨hv, ktrans kk k⟩) he x₁
end
end Mine
end

section
open PySem PySem.W PyProof.Rows PySem.Calls
set_option maxRecDepth 100000
set_option linter.unusedVariables false
set_option maxHeartbeats 16000000
namespace Mine

theorem law_c {w : World} {A : Around} {E : Value → Shared → Prop} {s : Shared} {k : Nat} {Q : Value → Shared → Prop} (S : Sta w s.heap) (rm : Rm A (k + 8)) {l : Value}
    (hl : (isA fun vs => vs.length ≤ 100 ∧ ∃ ns, IA vs ns).p l s.heap) (K : ∀ s', Keeps s s' → Q (.bool true) s') : wpC (model PySem.Challenge.rw_ho0001_01.row.prog w) A (call (.ref 89) [l]) Q E s := by
  refine wpC_call ?_
  refine' enterCC S rm (f := 89) (binds := [(Str.ofString "script", l)]) ?ho ?hcd ?hb ?hl ?_ ?h1 ?h2 ?h3
  case ho => with_unfolding_all rfl
  case hcd => kernel_rfl
  case hb => exact rfl
  case hl => exact rfl
  case h1 => exact rfl
  case h2 => exact rfl
  case h3 => exact rfl
  intro h₁ tk₁ k₁ X₁ rm'
  have S₁ : Sta w h₁ := S.keeps k₁
  have hl₁ : ∀ {h' : Heap}, Sub s.heap h' → (isA fun vs => vs.length ≤ 100 ∧ ∃ ns, IA vs ns).p l h' := fun k => (isA _).st _ _ _ hl k
  -- one, other
  refine wpC_execs_cons (wpC_any (asg2 rm'.hh (Ev.use (ref := h₁) (R := pure' fun v => ∃ p, vP v p) (ev_call1 (f := .ref 65) (R₁ := isL h₁ fun ys => ys.length ≤ 100 ∧ ∃ ns, IA ys ns) S₁ (.inr (.inr (by kernel_rfl))) (ev_glob S₁ (by with_unfolding_all rfl))
    (Ev.mono (ev_uptoA (n := 4) (P := fun vs => vs.length ≤ 100 ∧ ∃ ns, IA vs ns) (Ev.mono' (ev_local (v := l) (by rfl)) fun v s' F' e => ?_) ?_) ?_) fun a s' F' ha => drawn_c (S₁.keeps F'.keep) (rm'.mono (by omega) : Rm _ (k + 1)) (isO_of ha)) X₁.fm fun v s₂ hv k₂ => ?_)))
  · obtain rfl := e; exact hl₁ (Sub.trans k₁ F'.keep)
  · intro vs h; have := h.1; omega
  · rintro v h ⟨a, ys, n, rfl, r, g, vs, ⟨h1, ns, hi⟩, rfl⟩
    exact ⟨a, _, n, rfl, r, g, by rw [List.length_take]; omega, ns.take 4, pa_take hi 4⟩
  obtain ⟨p, tp, rfl⟩ := hv
  obtain ⟨h₂, t₂, rfl, k₂⟩ := k₂
  have X₂ := X₁.sub k₂
  have S₂ : Sta w h₂ := S₁.keeps k₂
  refine Ev.use (ref := h₂) (R := pure' fun v => ∃ p, vP v p) (ev_call1 (f := .ref 65) (R₁ := isL h₂ fun ys => ys.length ≤ 100 ∧ ∃ ns, IA ys ns) S₂ (.inr (.inr (by kernel_rfl))) (ev_glob S₂ (by with_unfolding_all rfl))
    (Ev.mono (ev_sliceA true (i := some 4) (j := some 8) (q := none) (P := fun vs => vs.length ≤ 100 ∧ ∃ ns, IA vs ns) (Ev.mono' (ev_local (v := l) (by rfl)) fun v s' F' e => ?_) ev_int ev_int trivial ?_ (by simp)) ?_) fun a s' F' ha => drawn_c (S₂.keeps F'.keep) (rm'.mono (by omega) : Rm _ (k + 1)) (isO_of ha)) X₂.fm fun v s₃ hv k₃ => ?_
  · obtain rfl := e; exact hl₁ (Sub.trans (Sub.trans k₁ k₂) F'.keep)
  · intro vs h; have := h.1; omega
  · rintro v h ⟨a, ys, n, rfl, r, g, vs, ⟨h1, ns, hi⟩, rfl⟩
    obtain ⟨i, j, e⟩ := slice_48 vs
    refine ⟨a, _, n, rfl, r, g, ?_, (ns.drop i).take j, ?_⟩
    · rw [e, List.length_take, List.length_drop]; omega
    · rw [e]; exact pa_take (pa_drop hi i) j
  obtain ⟨q, tq, rfl⟩ := hv
  obtain ⟨h₃, t₃, rfl, k₃⟩ := k₃
  have X₃ := X₂.sub k₃
  intro h₄ k₄
  have X₄ := X₃.sub k₄
  refine storeLL X₄ fun h₅ t₅ X₅ c₅ => storeLL X₅ fun h₆ t₆ X₆ c₆ => ?_
  dsimp only
  clear c₅ c₆
  obtain ⟨m, cm, m1, m2, X⟩ : ∃ m cm, m (Str.ofString "one") = some (.bytes (PB p).toArray tp) ∧ m (Str.ofString "other") = some (.bytes (PB q).toArray tq) ∧ LF s.heap h₆ s.heap.objs.size m _ cm := ⟨_, _, upd_at, upd_ne (by decide) upd_at, X₆⟩
  clear X₁ X₂ X₃ X₄ X₅ X₆ k₂ k₃ k₄ S₂ hl₁
  have S₆ : Sta w h₆ := S.keeps X.F.keep
  obtain ⟨fa, hlen⟩ := made_facts p q
  obtain ⟨hsrt, hle⟩ := made_ok [p, q]
  -- made
  refine wpC_execs_cons (wpC_any (asgLC (c := s.heap.objs.size + 1) X (by rfl) (R := isL h₆ fun vs => PA vs (made [p, q])) (ev_call1 (f := .ref 58) (R₁ := isL h₆ fun ys => PA ys [p, q]) S₆ (.inr (.inr (by kernel_rfl))) (ev_glob S₆ (by with_unfolding_all rfl)) (Ev.mono (ev_list2 (ev_local m1) (ev_local m2)) ?_) fun a s' F' ha E' => ?_) fun v h₇ h₈ t₈ hv k₇ c₈ X₈ => ?_))
  · rintro v h ⟨a, ys, n, rfl, r, g, x, y, h', rfl, hx, hy⟩
    obtain rfl := hx
    obtain rfl := hy
    exact ⟨a, _, n, rfl, r, g, .cons ⟨_, rfl⟩ (.cons ⟨_, rfl⟩ .nil)⟩
  · exact wpAny_mono (made_c (S₆.keeps F'.keep) (rm'.mono (by omega) : Rm _ (k + 4)) (isO_of ha) E') (fun v s'' z => ⟨isL_ref z.1 F'.keep, z.2⟩) fun _ _ z => z
  dsimp only
  obtain ⟨Mm, vm, nm, rfl, gM, hPM, oM, nM⟩ := X.newL hv c₈
  clear hv c₈ k₇
  generalize hms : made [p, q] = ms at *
  obtain ⟨cm, d1, X⟩ : ∃ cm, cm (Str.ofString "made") = some (.ref Mm) ∧ LF s.heap h₈ s.heap.objs.size m _ cm := ⟨_, upd_at, X₈⟩
  clear X₈
  have S₈ : Sta w h₈ := S.keeps X.F.keep
  have lM := pa_len hPM
  have isM : ∀ {h h' : Heap}, h.get? Mm = some (PySem.W.listOf vm.toArray nm) → Sub h h' → (isO fun vs => PA vs ms).p (.ref Mm) h' := fun g k => isO_at (k _ _ g) hPM
  -- many
  refine wpC_execs_cons (wpC_any (asgLC (c := s.heap.objs.size + 2) X (by rfl) (R := isI (ms.length : Nat)) (ev_call1 (R₁ := eqv (.ref Mm)) S₈ (.inr (.inl ⟨_, rfl⟩)) (ev_boot S₈ (by kernel_rfl) (by rfl)) (ev_cell (c := s.heap.objs.size + 1) (by rfl) (d1 ▸ X.cell _ _ (by rfl))) fun a s' F' ha => ?_) fun v h₉ h₁₀ t₁₀ hv k₉ c₁₀ X₁₀ => ?_))
  · obtain rfl := ha
    exact cl_len (isO_at (F'.keep _ _ gM) lM) (by omega)
  dsimp only
  obtain ⟨tn, rfl⟩ := hv
  obtain ⟨cm, d1, d2, X⟩ : ∃ cm, cm (Str.ofString "made") = some (.ref Mm) ∧ cm (Str.ofString "many") = some (.int (ms.length : Nat) tn) ∧ LF s.heap h₁₀ s.heap.objs.size m _ cm := ⟨_, upd_ne (by decide) d1, upd_at, X₁₀⟩
  have gM := c₁₀ _ _ oM (k₉ _ _ gM)
  clear X₁₀ c₁₀ k₉
  have S₁₀ : Sta w h₁₀ := S.keeps X.F.keep
  have hpos : 0 < ms.length := List.length_pos_of_mem fa.zero
  -- if made != sorted(made) or ..
  refine wpC_execs_cons (wpC_If (wpC_isTrue_BoolOp (wpC_or (wpC_any (Tr.use (ref := h₁₀) (b := false) (tr_cmp (R₁ := eqv (.ref Mm)) (R₂ := isL h₁₀ fun vs => PA vs ms) (ev_cell (c := s.heap.objs.size + 1) (by rfl) (d1 ▸ X.cell _ _ (by rfl)))
    (ev_call1 (R₁ := eqv (.ref Mm)) S₁₀ (.inr (.inl ⟨_, rfl⟩)) (ev_boot S₁₀ (by kernel_rfl) (by rfl)) (ev_cell (c := s.heap.objs.size + 1) (by rfl) (d1 ▸ X.cell _ _ (by rfl))) fun a s' F' ha => ?_) fun a b s' E' F' ha hb => ?_) X.fm fun s₁₁ k₁₁ => ?_)))))
  · obtain rfl := ha
    exact cl_sorted (isM gM F'.keep) (by omega) F'.keep (List.Perm.refl _) hsrt
  · obtain rfl := ha
    refine wpAny_mono (ne_LP (isM gM F'.keep) (isO_of hb) rm'.cl) (fun v s'' z => ⟨?_, z.2⟩) fun _ _ z => z
    rw [z.1]; simp
  rw [if_neg Bool.false_ne_true]
  obtain ⟨h₁₁, t₁₁, rfl, k₁₁⟩ := k₁₁
  have X := X.sub k₁₁
  have gM := k₁₁ _ _ gM
  have S₁₁ : Sta w h₁₁ := S.keeps X.F.keep
  refine wpC_or (wpC_any (Tr.use (ref := h₁₁) (b := false) (tr_cmp (R₁ := isI ((24 % ms.length : Nat) : Int)) (R₂ := isI 0) (ev_bin (R₁ := isI 24) (R₂ := eqv (.int (ms.length : Nat) tn)) ev_int (ev_cell (c := s.heap.objs.size + 2) (by rfl) (d2 ▸ X.cell _ _ (by rfl))) fun a b s' E' F' ha hb => ?_) ev_int fun a b s' E' F' ha hb => ?_) X.fm fun s₁₂ k₁₂ => ?_))
  · obtain ⟨_, rfl⟩ := ha
    obtain rfl := hb
    refine mod_int (by omega) ⟨⟨s'.toks, ?_⟩, kof (Sub.refl _)⟩
    rw [Int.fmod_eq_emod_of_nonneg _ (by omega)]
    rfl
  · obtain ⟨_, rfl⟩ := ha
    obtain ⟨_, rfl⟩ := hb
    exact ne_int ⟨by rw [fa.div]; rfl, krefl _⟩
  rw [if_neg Bool.false_ne_true]
  obtain ⟨h₁₂, t₁₂, rfl, k₁₂⟩ := k₁₂
  have X := X.sub k₁₂
  have gM := k₁₂ _ _ gM
  have S₁₂ : Sta w h₁₂ := S.keeps X.F.keep
  refine wpC_or (wpC_isTrue_cmp (c_call2 (ref := h₁₂) (f := .ref 21) (R₁ := eqv (.bytes (PB p).toArray tp)) (R₂ := isI 4) (ev_glob S₁₂ (by with_unfolding_all rfl)) (ev_local m1) ev_int X.fm (fun h k => kp_K (w := w) (by kernel_rfl) (S₁₂.keeps k).K) fun a b s₁₃ k₁₃ ha hb => ?_))
  obtain rfl := ha
  obtain ⟨_, rfl⟩ := hb
  obtain ⟨h₁₃, t₁₃, rfl, k₁₃⟩ := k₁₃
  refine swap_c (S₁₂.keeps k₁₃) (rm'.mono (by omega) : Rm _ (k + 1)) fun v s₁₄ hv k₁₄ => ?_
  obtain ⟨_, rfl⟩ := hv
  obtain ⟨h₁₄, t₁₄, rfl, k₁₄⟩ := k₁₄
  have X := X.sub (Sub.trans k₁₃ k₁₄)
  have gM := k₁₄ _ _ (k₁₃ _ _ gM)
  have S₁₄ : Sta w h₁₄ := S.keeps X.F.keep
  refine Ev.use (ref := h₁₄) (R := isP (revP p)) (ev_call1 (f := .type "bytes") (R₁ := isL h₁₄ fun ys => IA ys (bI (PB p)).reverse) S₁₄ (.inl ⟨_, rfl⟩) (ev_boot S₁₄ (by kernel_rfl) (by rfl)) (Ev.mono (ev_slice false (i := none) (j := none) (q := some (-1)) (P := fun vs => IA vs (bI (PB p)))
    (Ev.mono (R₁ := isL h₁₄ fun vs => IA vs (bI (PB p))) (ev_call1 (f := .type "list") (R₁ := eqv (.bytes (PB p).toArray tp)) S₁₄ (.inl ⟨_, rfl⟩) (ev_boot S₁₄ (by kernel_rfl) (by rfl)) (ev_local m1) fun a s' F' ha => ?_) fun v h z => isO_of z) trivial trivial (ev_neg ev_int) (fun vs h => ?_) (by simp)) ?_) fun a s' F' ha E' => ?_) X.fm fun v s₁₅ hv k₁₅ => ?_
  · obtain rfl := ha
    exact cl_list_bytes rm'.hh (by rw [PB_len]; decide) F'.keep
  · have := pa_len h; have := PB_len p; simp [bI] at *; omega
  · rintro v h ⟨a, ys, n, rfl, r, g, vs, hi, rfl⟩
    refine ⟨a, _, n, rfl, r, g, ?_⟩
    rw [krv_pick]
    exact pa_rev hi
  · refine wpAny_mono (cl_bytes rm'.hh (isO_of ha) ?_ ?_ E') (fun v s'' h => ⟨?_, h.2⟩) fun _ _ x => x
    · intro n hn
      simp only [bI, List.mem_reverse, List.mem_map] at hn
      obtain ⟨c, _, rfl⟩ := hn
      have := UInt8.toNat_lt c
      omega
    · have := PB_len p; simp [bI]; omega
    · obtain ⟨t, e⟩ := h.1
      exact ⟨t, by rw [e, rev_bytes]⟩
  obtain ⟨_, rfl⟩ := hv
  obtain ⟨h₁₅, t₁₅, rfl, k₁₅⟩ := k₁₅
  refine ne_P (wpAny_truthy_bool ?_)
  rw [decide_eq_true rfl]
  rw [if_neg (by simp)]
  refine wpC_any (wpAny_allTrue_Or_nil ?_)
  rw [if_neg Bool.false_ne_true]
  refine wpC_any (wpAny_execs_nil ?_)
  dsimp only
  have X := X.sub k₁₅
  have gM := k₁₅ _ _ gM
  have S₁₅ : Sta w h₁₅ := S.keeps X.F.keep
  -- times
  have filt : ∀ l : List (Fin 24), l.filter (fun _ => true) = l := fun l => List.filter_eq_self.mpr fun _ _ => rfl
  refine wpC_execs_cons (casgLC (c := s.heap.objs.size + 3) X (by rfl) (R := isD PySem.Challenge.rw_ho0001_01.row.prog w h₁₅ (fun p v => vI v (tm p : Nat)) (ms.foldl addK [])) (fun Q' kQ => c_call1C (ref := h₁₅) (f := .type "dict") (R₁ := isLY h₁₅ (pairY fun p v => vI v (tm p : Nat)) ms) (ev_boot S₁₅ (by kernel_rfl) (by rfl)) X.fm (fun h k => kp_type)
    (fun s₁ Q₁ k₁ kQ₁ => c_listcomp (ref := h₁₅) (ps := ms) (P := vP) (pairY fun p v => vI v (tm p : Nat)) (fun _ => true) rm'.hh (Ev.mono' (ev_cell (c := s.heap.objs.size + 1) (by rfl) (d1 ▸ X.cell _ _ (by rfl))) fun v s' F' e => ?_) (X.fm.keeps (ksub k₁)) (by omega) (fun _ _ _ _ _ _ => trs_nil) (fun C m₃ v a hv _ hm s₃ E₃ F₃ => ?_) fun v s₂ k₂ hv => kQ₁ v s₂ k₂ (by rw [filt] at hv; exact hv))
    (fun a s₁ k₁ ha => wpC_any ((cl_dict rm'.hh ha (by omega) (X.fm.keeps (ksub k₁)).keep (S₁₅.keeps (ksub k₁))).use fun v s₂ hv k₂ => kQ v s₂ (ktrans k₁ k₂) hv))) fun v h₁₆ h₁₇ t₁₇ hv k₁₆ c₁₇ X₁₇ => ?_)
  · obtain rfl := e; exact isM gM F'.keep
  · obtain ⟨ta, rfl⟩ := hv
    have S₃ : Sta w s₃.heap := S₁₅.keeps F₃.keep
    refine wpC_any (tup2 (Ev.use (ref := h₁₅) (ev_local hm) F₃ fun u s₄ hu k₄ => Ev.use (ref := h₁₅) (R := isI (tm a : Nat)) (ev_call1 (f := .ref 72) (R₁ := eqv (.bytes (PB a).toArray ta)) S₁₅ (.inr (.inr (by kernel_rfl))) (ev_glob S₁₅ (by with_unfolding_all rfl)) (ev_local hm) fun b s' F' hb => ?_) (F₃.keeps (ksub k₄)) fun b s₅ hb k₅ => ?_))
    · obtain rfl := hb
      exact times_c (S₁₅.keeps F'.keep) (rm'.mono (by omega) : Rm _ (k + 2))
    · obtain rfl := hu
      refine ⟨.inr ⟨_, _, rfl, none_of_sub (ksub (ktrans k₄ k₅)) (new_none _), Heap.get?_push_size _ rfl, _, b, rfl, ⟨_, rfl⟩, hb⟩, ktrans (ktrans k₄ k₅) (kof fun b o e => Heap.get?_push_of_some _ e)⟩
  dsimp only
  obtain ⟨Dt, kvs, rfl, rD, hD, hDK, lo⟩ := hv
  have oD : OffO s.heap.objs.size _ Dt := X.new rD
  obtain ⟨oDt, gDt, hDo⟩ := Heap.dictOf_iff.mp hD
  have gM := c₁₇ _ _ oM (k₁₆ _ _ gM)
  obtain ⟨cm, Y⟩ : ∃ cm, LS ⟨s.heap, s.heap.objs.size, _, .bytes (PB p).toArray tp, .bytes (PB q).toArray tq, Mm, PySem.W.listOf vm.toArray nm, .int (ms.length : Nat) tn, Dt, oDt⟩ h₁₇ m cm :=
    ⟨_, X₁₇, m1, m2, upd_ne (by decide) d1, upd_ne (by decide) d2, upd_at, gM, c₁₇ _ _ oD gDt, oM, oD⟩
  have S₁₇ : Sta w h₁₇ := S.keeps Y.X.F.keep
  have nD : s.heap.get? Dt = none := none_of_sub X.F.keep rD
  clear X₁₇ X m1 m2 d1 d2 c₁₇ gM gDt hD k₁₆ S₁₅ S₁₄ S₁₂ S₁₁ S₁₀ S₈ S₆ S₁
  -- for number in range(1, 13)
  refine wpC_execs_cons (wpC_For (Ev.use (ref := h₁₇) (R := ⟨fun v h => ∃ r t u x, v = .ref r ∧ IsRange h r 1 13 1 t u x, fun v h h' x k => by obtain ⟨r, t, u, x, e, q⟩ := x; exact ⟨r, t, u, x, e, k _ _ q⟩⟩)
    (ev_call2 (f := .type "range") (R₁ := isI 1) (R₂ := isI 13) S₁₇ (.inl ⟨_, rfl⟩) (ev_boot S₁₇ (by kernel_rfl) (by rfl)) ev_int ev_int fun a b s' F' ha hb E' => ?_) Y.X.fm fun v s₁₈ hv k₁₈ => ?_))
  · obtain ⟨_, rfl⟩ := ha
    obtain ⟨_, rfl⟩ := hb
    exact call_range_2 ⟨⟨_, _, _, _, rfl, IsRange.new s'.heap 1 13 1 _ _ _⟩, kof fun b o e => Heap.get?_push_of_some _ e⟩
  obtain ⟨rr, _, _, _, rfl, hr⟩ := hv
  obtain ⟨h₁₈, t₁₈, rfl, k₁₈⟩ := k₁₈
  refine pyiterR (n := 12) rm'.hh hr (by decide +kernel) (by decide +kernel) fun I h₁₉ St k₁₉ rI W st₁₉ hst => ?_
  have Y₁₈ := Y.sub k₁₈
  have oI := Y₁₈.X.new rI
  have nI : s.heap.get? I = none := none_of_sub Y₁₈.X.F.keep rI
  have MI : Mm ≠ I := ne_of_get Y₁₈.gM rI
  have DI : Dt ≠ I := ne_of_get Y₁₈.gD rI
  refine codeC_forLoop (fun n s' => ∃ h tk m cm i, s' = { s with heap := h, toks := tk } ∧ LS ⟨s.heap, s.heap.objs.size, _, .bytes (PB p).toArray tp, .bytes (PB q).toArray tq, Mm, PySem.W.listOf vm.toArray nm, .int (ms.length : Nat) tn, Dt, oDt⟩ h m cm ∧ St i h ∧ i ≤ 12 ∧ n = 13 - i) ?_ 13
    ⟨h₁₉, _, _, _, 0, rfl, Y₁₈.sub k₁₉, st₁₉, by decide, rfl⟩
  clear Y Y₁₈ st₁₉ k₁₉ k₁₈ hr
  rintro n _ ⟨h, tk, m, cm, i, rfl, Y, st, hi, rfl⟩
  have stay : ∀ {i : Nat} {h h' : Heap}, St i h → (∀ o, h.get? I = some o → h'.get? I = some o) → St i h' := fun st c => W.frame _ _ _ st fun b hb o e => by
    rw [List.mem_singleton.mp hb] at e ⊢; exact c o e
  have hPM' : Paired (fun v a => vP v a ∧ a ∈ ms) vm ms := pa_mem hPM fun _ h => h
  by_cases hi12 : i < 12
  · refine W.item i _ _ _ hi12 st fun v h' tk' hv st' x => ?_
    obtain ⟨ti, rfl⟩ := hv
    have x' : Heap.ExtBut I h h' := fun b o hb e => x b o (by simpa using hb) e
    have Y := Y.ext oI nI x' MI DI
    rw [show (1 : Int) + (i : Int) * 1 = ((i + 1 : Nat) : Int) by omega]
    refine wpAny_assign_Name (storeLC (c := s.heap.objs.size + 4) Y.X (by rfl) fun h₂ t₂ X₂ c₂ => ?_)
    have st₂ := stay st' fun o e => c₂ I o oI e
    obtain ⟨cm, d4, Y⟩ : ∃ cm, cm (Str.ofString "number") = some (.int ((i + 1 : Nat) : Int) ti) ∧ LS ⟨s.heap, s.heap.objs.size, _, .bytes (PB p).toArray tp, .bytes (PB q).toArray tq, Mm, PySem.W.listOf vm.toArray nm, .int (ms.length : Nat) tn, Dt, oDt⟩ h₂ m cm := ⟨_, upd_at, Y.setC X₂ c₂ (by decide) (by decide) (by decide)⟩
    clear X₂ c₂ st'
    have S₂ : Sta w h₂ := S.keeps Y.X.F.keep
    -- come
    refine wpC_execs_cons (c_asgcomp (ps := ms) (P := fun v a => vP v a ∧ a ∈ ms) (fun a y => vP y a) (fun a => decide ((i + 1) % tm a = 0)) rm'.hh Y.X.F (Ev.mono' (ev_cell (c := s.heap.objs.size + 1) (by rfl) (Y.d1 ▸ Y.X.cell _ _ (by rfl))) fun v s' F' e => ?_) (by omega) (fun C m₃ v a hv hm => ?_) (fun C m₃ v a hv _ hm s₃ E₃ F₃ => ?_) fun D ys n' h₃ t₃ rD' x₃ F₃ gD₃ hP₃ => ?_)
    · obtain rfl := e
      exact isO_at (F'.keep _ _ Y.gM) hPM'
    · obtain ⟨⟨ta, rfl⟩, ha⟩ := hv
      have hta := tm_pos a
      refine trs_one (tr_cmp (R₁ := isI (((i + 1) % tm a : Nat) : Int)) (R₂ := isI 0) (ev_bin (R₁ := eqv (.int ((i + 1 : Nat) : Int) ti)) (R₂ := isI (tm a : Nat)) (ev_cell (c := s.heap.objs.size + 4) (by rfl) (d4 ▸ Y.X.cell _ _ (by rfl))) (ev_tm (ev_cell (c := s.heap.objs.size + 3) (by rfl) (Y.d3 ▸ Y.X.cell _ _ (by rfl))) (ev_local hm) Y.gD hDo hDK ha lo) fun x y s' E' F' hx hy => ?_) ev_int fun x y s' E' F' hx hy => ?_)
      · obtain rfl := hx
        obtain ⟨_, rfl⟩ := hy
        refine mod_int (by omega) ⟨⟨s'.toks, ?_⟩, kof (Sub.refl _)⟩
        rw [Int.fmod_eq_emod_of_nonneg _ (by omega)]
        rfl
      · obtain ⟨_, rfl⟩ := hx
        obtain ⟨_, rfl⟩ := hy
        exact eq_int ⟨congrArg Value.bool (by rw [Bool.eq_iff_iff, beq_iff_eq, decide_eq_true_eq]; omega), krefl _⟩
    · exact wpC_any (Ev.use (ref := h₂) (ev_local hm) F₃ fun y s₄ hy k₄ => by obtain rfl := hy; exact ⟨hv.1, k₄⟩)
    dsimp only
    have oC := Y.X.new rD'
    have st₃ := stay st₂ fun o e => x₃ I o oI.1 e
    obtain ⟨m, m8, Y⟩ : ∃ m, m (Str.ofString "come") = some (.ref D) ∧ LS ⟨s.heap, s.heap.objs.size, _, .bytes (PB p).toArray tp, .bytes (PB q).toArray tq, Mm, PySem.W.listOf vm.toArray nm, .int (ms.length : Nat) tn, Dt, oDt⟩ h₃ m cm := ⟨_, upd_at, Y.setL (Y.X.loc F₃ x₃) (chg_L x₃) (by decide) (by decide)⟩
    have S₃ : Sta w h₃ := S.keeps Y.X.F.keep
    have lC := pa_len hP₃
    have lC' := List.length_filter_le (fun a => decide ((i + 1) % tm a = 0)) ms
    have hg : 0 < Nat.gcd (i + 1) ms.length := Nat.gcd_pos_of_pos_left _ (by omega)
    have hfr := fa.frob ⟨i + 1, by omega⟩ (by simp)
    refine wpC_execs_cons (wpC_any (if_ (ref := h₃) (b := false) Y.X.fm (tr_cmp (R₁ := isI (((ms.filter fun a => decide ((i + 1) % tm a = 0)).length % Nat.gcd (i + 1) ms.length : Nat) : Int)) (R₂ := isI 0) (ev_bin (R₁ := isI ((ms.filter fun a => decide ((i + 1) % tm a = 0)).length : Nat)) (R₂ := isI (Nat.gcd (i + 1) ms.length : Nat))
      (ev_call1 (R₁ := eqv (.ref D)) S₃ (.inr (.inl ⟨_, rfl⟩)) (ev_boot S₃ (by kernel_rfl) (by rfl)) (ev_local m8) fun a s' F' ha => ?_) (ev_call2 (f := .ref 79) (R₁ := eqv (.int ((i + 1 : Nat) : Int) ti)) (R₂ := eqv (.int (ms.length : Nat) tn)) S₃ (.inr (.inr (by kernel_rfl))) (ev_glob S₃ (by with_unfolding_all rfl)) (ev_cell (c := s.heap.objs.size + 4) (by rfl) (d4 ▸ Y.X.cell _ _ (by rfl))) (ev_cell (c := s.heap.objs.size + 2) (by rfl) (Y.d2 ▸ Y.X.cell _ _ (by rfl))) fun a b s' F' ha hb => ?_) fun a b s' E' F' ha hb => ?_) ev_int fun a b s' E' F' ha hb => ?_) fun s₄ k₄ => ?_))
    · obtain rfl := ha
      exact cl_len (isO_at (F'.keep _ _ gD₃) lC) (by omega)
    · obtain rfl := ha
      obtain rfl := hb
      exact shared_c (S₃.keeps F'.keep) (rm'.mono (by omega) : Rm _ (k + 1)) _ _
    · obtain ⟨_, rfl⟩ := ha
      obtain ⟨_, rfl⟩ := hb
      refine mod_int (by omega) ⟨⟨s'.toks, ?_⟩, kof (Sub.refl _)⟩
      rw [Int.fmod_eq_emod_of_nonneg _ (by omega)]
      rfl
    · obtain ⟨_, rfl⟩ := ha
      obtain ⟨_, rfl⟩ := hb
      exact ne_int ⟨by rw [hfr]; rfl, krefl _⟩
    obtain ⟨h₄, t₄, rfl, k₄⟩ := k₄
    refine wpAny_execs_nil (wpC_any (wpAny_execs_nil ?_))
    exact ⟨13 - (i + 1), by omega, h₄, _, m, cm, i + 1, rfl, Y.sub k₄, W.frame _ _ _ st₃ fun b hb o e => k₄ _ _ e, by omega, rfl⟩
  · obtain rfl : i = 12 := by omega
    refine W.done _ _ _ st fun h' tk' x => ?_
    have x' : Heap.ExtBut I h h' := fun b o hb e => x b o (by simpa using hb) e
    have Y := Y.ext oI nI x' MI DI
    clear W st stay hst x
    have S' : Sta w h' := S.keeps Y.X.F.keep
    -- for prime in [2, 3]
    refine wpC_execs_cons (wpC_For (Ev.use (ref := h') (R := isL h' fun ys => ∃ a b, ys = [a, b] ∧ vI a 2 ∧ vI b 3) (Ev.mono (ev_list2 ev_int ev_int) ?_) Y.X.fm fun v s₂₀ hv k₂₀ => ?_))
    · rintro v h ⟨a, ys, n, rfl, r, g, x, y, h'', rfl, hx, hy⟩
      exact ⟨a, _, n, rfl, r, g, x, y, rfl, hx, hy⟩
    obtain ⟨Lp, _, np, rfl, rP, gP, va, vb, rfl, ⟨ta, rfl⟩, ⟨tb, rfl⟩⟩ := hv
    obtain ⟨h₂₀, t₂₀, rfl, k₂₀⟩ := k₂₀
    have oP := Y.X.new rP
    have MP : Mm ≠ Lp := ne_of_get Y.gM rP
    have DP : Dt ≠ Lp := ne_of_get Y.gD rP
    have Y := Y.sub k₂₀
    refine pyiterL gP fun J h₂₁ k₂₁ rJ itJ => ?_
    have oJ := Y.X.new rJ
    have nJ : s.heap.get? J = none := none_of_sub Y.X.F.keep rJ
    have MJ : Mm ≠ J := ne_of_get Y.gM rJ
    have DJ : Dt ≠ J := ne_of_get Y.gD rJ
    have PJ : Lp ≠ J := ne_of_get gP rJ
    refine codeC_forLoop (fun n s' => ∃ h tk m cm i, s' = { s with heap := h, toks := tk } ∧ LS ⟨s.heap, s.heap.objs.size, _, .bytes (PB p).toArray tp, .bytes (PB q).toArray tq, Mm, PySem.W.listOf vm.toArray nm, .int (ms.length : Nat) tn, Dt, oDt⟩ h m cm ∧ h.get? Lp = some (PySem.W.listOf [Value.int 2 ta, Value.int 3 tb].toArray np) ∧ h.IsListIter J Lp i ∧ i ≤ 2 ∧ n = 3 - i) ?_ 3
      ⟨h₂₁, _, _, _, 0, rfl, Y.sub k₂₁, k₂₁ _ _ gP, itJ, by decide, rfl⟩
    clear Y itJ k₂₁ k₂₀ gP S'
    rintro n _ ⟨h, tk, m, cm, i, rfl, Y, gP, itJ, hi, rfl⟩
    by_cases hi2 : i < 2
    · obtain ⟨r, tr, hr, hr1, hv⟩ := two_items ta tb i hi2
      refine wpAny_pyNext_list_item itJ ⟨_, gP, rfl, np, rfl⟩ hv fun h₂ it₂ s₂ => ?_
      have x₂ := s₂.extBut
      have gP := x₂ _ _ PJ gP
      have Y := Y.ext oJ nJ x₂ MJ DJ
      refine wpAny_assign_Name (storeLC (c := s.heap.objs.size + 5) Y.X (by rfl) fun h₃ t₃ X₃ c₃ => ?_)
      have gP := c₃ _ _ oP gP
      have it₃ : h₃.IsListIter J Lp (i + 1) := it₂.at fun o e => c₃ J o oJ e
      obtain ⟨cm, d5, Y⟩ : ∃ cm, cm (Str.ofString "prime") = some (.int (r : Int) tr) ∧ LS ⟨s.heap, s.heap.objs.size, _, .bytes (PB p).toArray tp, .bytes (PB q).toArray tq, Mm, PySem.W.listOf vm.toArray nm, .int (ms.length : Nat) tn, Dt, oDt⟩ h₃ m cm := ⟨_, upd_at, Y.setC X₃ c₃ (by decide) (by decide) (by decide)⟩
      clear X₃ c₃
      have S₃ : Sta w h₃ := S.keeps Y.X.F.keep
      refine wpC_execs_cons (wpC_any (if_ (ref := h₃) (b := false) Y.X.fm (tr_cmp (R₁ := isB (decide (ms.length % r = 0))) (R₂ := isB (!decide ((ms.filter fun a => decide (tm a = r)) = [])))
        (ev_cmp (R₁ := isI ((ms.length % r : Nat) : Int)) (R₂ := isI 0) (ev_bin (R₁ := eqv (.int (ms.length : Nat) tn)) (R₂ := eqv (.int (r : Int) tr)) (ev_cell (c := s.heap.objs.size + 2) (by rfl) (Y.d2 ▸ Y.X.cell _ _ (by rfl))) (ev_cell (c := s.heap.objs.size + 5) (by rfl) (d5 ▸ Y.X.cell _ _ (by rfl))) fun a b s' E' F' ha hb => ?_) ev_int fun a b s' E' F' ha hb => ?_)
        (ev_cmp (R₁ := isL h₃ fun ys => PA ys (ms.filter fun a => decide (tm a = r))) (R₂ := isL h₃ fun ys => PA ys []) (ev_compP (fun a => decide (tm a = r)) rm'.hh (Ev.mono' (ev_cell (c := s.heap.objs.size + 1) (by rfl) (Y.d1 ▸ Y.X.cell _ _ (by rfl))) fun v s' F' e => ?_) (fun C m₃ v a hv ha hm => ?_) (by omega)) (Ev.mono ev_list0 ?_) fun a b s' E' F' ha hb => ?_) fun a b s' E' F' ha hb => ?_) fun s₄ k₄ => ?_))
      · obtain rfl := ha
        obtain rfl := hb
        refine mod_int (by omega) ⟨⟨s'.toks, ?_⟩, kof (Sub.refl _)⟩
        rw [Int.fmod_eq_emod_of_nonneg _ (by omega)]
        rfl
      · obtain ⟨_, rfl⟩ := ha
        obtain ⟨_, rfl⟩ := hb
        exact eq_int ⟨congrArg Value.bool (by rw [Bool.eq_iff_iff, beq_iff_eq, decide_eq_true_eq]; omega), krefl _⟩
      · obtain rfl := e
        exact isO_at (F'.keep _ _ Y.gM) hPM
      · obtain ⟨ta', rfl⟩ := hv
        refine trs_one (tr_cmp (R₁ := isI (tm a : Nat)) (R₂ := eqv (.int (r : Int) tr)) (ev_tm (ev_cell (c := s.heap.objs.size + 3) (by rfl) (Y.d3 ▸ Y.X.cell _ _ (by rfl))) (ev_local hm) Y.gD hDo hDK ha lo) (ev_cell (c := s.heap.objs.size + 5) (by rfl) (d5 ▸ Y.X.cell _ _ (by rfl))) fun x y s' E' F' hx hy => ?_)
        obtain ⟨_, rfl⟩ := hx
        obtain rfl := hy
        exact eq_int ⟨congrArg Value.bool (by rw [Bool.eq_iff_iff, beq_iff_eq, decide_eq_true_eq]; omega), krefl _⟩
      · rintro v h ⟨a, ys, n, rfl, r, g, rfl⟩
        exact ⟨a, _, n, rfl, r, g, .nil⟩
      · exact ne_LP (isO_of ha) (isO_of hb) rm'.cl
      · obtain rfl := ha
        obtain rfl := hb
        exact ne_bools ⟨by rw [fa.cauchy r hr]; simp, krefl _⟩
      obtain ⟨h₄, t₄, rfl, k₄⟩ := k₄
      refine wpAny_execs_nil (wpC_any (wpAny_execs_nil ?_))
      exact ⟨3 - (i + 1), by omega, h₄, _, m, cm, i + 1, rfl, Y.sub k₄, k₄ _ _ gP, it₃.at fun o e => k₄ _ _ e, by omega, rfl⟩
    · obtain rfl : i = 2 := by omega
      refine wpAny_pyNext_list_end rm'.hh itJ ⟨_, gP, rfl, np, rfl⟩ (by rfl) fun h₂ x₂ => ?_
      have Y := Y.ext oJ nJ x₂ MJ DJ
      have S₂ : Sta w h₂ := S.keeps Y.X.F.keep
      have isM' : ∀ {h' : Heap}, Sub h₂ h' → (isO fun vs => PA vs ms).p (.ref Mm) h' := fun k => isO_at (k _ _ Y.gM) hPM
      -- if many % 3 == 0 and ..
      refine wpC_execs_cons (wpC_any (if_ (ref := h₂) (b := decide (ms.length % 3 = 0) && (false && true)) Y.X.fm (tr_boolop (tra_and_cons (tr_cmp (R₁ := isI ((ms.length % 3 : Nat) : Int)) (R₂ := isI 0) (ev_bin (R₁ := eqv (.int (ms.length : Nat) tn)) (R₂ := isI 3) (ev_cell (c := s.heap.objs.size + 2) (by rfl) (Y.d2 ▸ Y.X.cell _ _ (by rfl))) ev_int fun a b s' E' F' ha hb => ?_) ev_int fun a b s' E' F' ha hb => ?_)
        fun h3 => tra_and_cons (tr_cmp (R₁ := isI (((ms.filter fun a => decide (tm a = 3)).length / 2 % 3 : Nat) : Int)) (R₂ := isI 1) (ev_bin (R₁ := isI (((ms.filter fun a => decide (tm a = 3)).length / 2 : Nat) : Int)) (R₂ := isI 3) (ev_bin (R₁ := isI ((ms.filter fun a => decide (tm a = 3)).length : Nat)) (R₂ := isI 2) (ev_call1 (R₁ := isL h₂ fun ys => PA ys (ms.filter fun a => decide (tm a = 3))) S₂ (.inr (.inl ⟨_, rfl⟩)) (ev_boot S₂ (by kernel_rfl) (by rfl))
          (ev_compP (fun a => decide (tm a = 3)) rm'.hh (Ev.mono' (ev_cell (c := s.heap.objs.size + 1) (by rfl) (Y.d1 ▸ Y.X.cell _ _ (by rfl))) fun v s' F' e => ?_) (fun C m₃ v a hv ha hm => ?_) (by omega)) fun a s' F' ha => ?_) ev_int fun a b s' E' F' ha hb => ?_) ev_int fun a b s' E' F' ha hb => ?_) ev_int fun a b s' E' F' ha hb => ?_) fun _ => tra_and_nil)) fun s₄ k₄ => ?_))
      · obtain rfl := ha
        obtain ⟨_, rfl⟩ := hb
        refine mod_int (by decide) ⟨⟨s'.toks, ?_⟩, kof (Sub.refl _)⟩
        rw [Int.fmod_eq_emod_of_nonneg _ (by decide)]
        rfl
      · obtain ⟨_, rfl⟩ := ha
        obtain ⟨_, rfl⟩ := hb
        exact eq_int ⟨congrArg Value.bool (by rw [Bool.eq_iff_iff, beq_iff_eq, decide_eq_true_eq]; omega), krefl _⟩
      · obtain rfl := e
        exact isM' F'.keep
      · obtain ⟨ta', rfl⟩ := hv
        refine trs_one (tr_cmp (R₁ := isI (tm a : Nat)) (R₂ := isI 3) (ev_tm (ev_cell (c := s.heap.objs.size + 3) (by rfl) (Y.d3 ▸ Y.X.cell _ _ (by rfl))) (ev_local hm) Y.gD hDo hDK ha lo) ev_int fun x y s' E' F' hx hy => ?_)
        obtain ⟨_, rfl⟩ := hx
        obtain ⟨_, rfl⟩ := hy
        exact eq_int ⟨congrArg Value.bool (by rw [Bool.eq_iff_iff, beq_iff_eq, decide_eq_true_eq]; omega), krefl _⟩
      · exact cl_len (isO_mono (fun vs h => pa_len h) (isO_of ha)) (Nat.le_trans (List.length_filter_le _ _) (by omega))
      · obtain ⟨_, rfl⟩ := ha
        obtain ⟨_, rfl⟩ := hb
        refine floordiv_int (by decide) ⟨⟨s'.toks, ?_⟩, kof (Sub.refl _)⟩ (.inl (PyProof.noPylong_small (by decide)))
        rw [Int.fdiv_eq_ediv_of_nonneg _ (by decide)]; rfl
      · obtain ⟨_, rfl⟩ := ha
        obtain ⟨_, rfl⟩ := hb
        refine mod_int (by decide) ⟨⟨s'.toks, ?_⟩, kof (Sub.refl _)⟩
        rw [Int.fmod_eq_emod_of_nonneg _ (by decide)]
        rfl
      · obtain ⟨_, rfl⟩ := ha
        obtain ⟨_, rfl⟩ := hb
        exact ne_int ⟨by rw [fa.sylow (of_decide_eq_true h3)]; rfl, krefl _⟩
      rw [show (decide (ms.length % 3 = 0) && (false && true)) = false by simp]
      obtain ⟨h₄, t₄, rfl, k₄⟩ := k₄
      refine wpAny_execs_nil ?_
      dsimp only
      have Y := Y.sub k₄
      have S₄ : Sta w h₄ := S.keeps Y.X.F.keep
      clear isM' S₂ k₄ x₂
      have isM' : ∀ {h' : Heap}, Sub h₄ h' → (isO fun vs => PA vs ms).p (.ref Mm) h' := fun k => isO_at (k _ _ Y.gM) hPM
      -- if [..] != []
      refine wpC_execs_cons (wpC_any (if_ (ref := h₄) (b := false) Y.X.fm (tr_cmp (R₁ := isL h₄ fun ys => PA ys (ms.filter fun _ => false || (!true || false))) (R₂ := isL h₄ fun ys => PA ys []) (ev_compP (fun _ => false || (!true || false)) rm'.hh (Ev.mono' (ev_cell (c := s.heap.objs.size + 1) (by rfl) (Y.d1 ▸ Y.X.cell _ _ (by rfl))) fun v s' F' e => ?_) (fun C m₃ v a hv ha hm => ?_) (by omega)) (Ev.mono ev_list0 ?_) fun a b s' E' F' ha hb => ?_) fun s₅ k₅ => ?_))
      · obtain rfl := e
        exact isM' F'.keep
      · obtain ⟨ta', rfl⟩ := hv
        obtain ⟨i1, i2⟩ := fa.inv a ha
        have hta := tm_pos a
        refine trs_one (tr_boolop (tra_or_cons (tr_cmp (c := false) (R₁ := isI ((ms.length % tm a : Nat) : Int)) (R₂ := isI 0) (ev_bin (R₁ := eqv (.int (ms.length : Nat) tn)) (R₂ := isI (tm a : Nat)) (ev_cell (c := s.heap.objs.size + 2) (by rfl) (Y.d2 ▸ Y.X.cell _ _ (by rfl))) (ev_tm (ev_cell (c := s.heap.objs.size + 3) (by rfl) (Y.d3 ▸ Y.X.cell _ _ (by rfl))) (ev_local hm) Y.gD hDo hDK ha lo) fun x y s' E' F' hx hy => ?_) ev_int fun x y s' E' F' hx hy => ?_)
          fun _ => tra_or_cons (tr_not (tr_bool (c := true) (ev_call2 (f := .ref 51) (R₁ := eqv (.ref Mm)) (R₂ := isP (Mine.inv a)) S₄ (.inr (.inr (by kernel_rfl))) (ev_glob S₄ (by with_unfolding_all rfl)) (ev_cell (c := s.heap.objs.size + 1) (by rfl) (Y.d1 ▸ Y.X.cell _ _ (by rfl))) (ev_call1 (f := .ref 84) (R₁ := eqv (.bytes (PB a).toArray ta')) S₄ (.inr (.inr (by kernel_rfl))) (ev_glob S₄ (by with_unfolding_all rfl)) (ev_local hm) fun x s' F' hx => ?_) fun x y s' F' hx hy => ?_))) fun _ => tra_or_nil))
        · obtain rfl := hx
          obtain ⟨_, rfl⟩ := hy
          refine mod_int (by omega) ⟨⟨s'.toks, ?_⟩, kof (Sub.refl _)⟩
          rw [Int.fmod_eq_emod_of_nonneg _ (by omega)]
          rfl
        · obtain ⟨_, rfl⟩ := hx
          obtain ⟨_, rfl⟩ := hy
          exact ne_int ⟨by rw [i1]; rfl, krefl _⟩
        · obtain rfl := hx
          exact back_c (S₄.keeps F'.keep) (rm'.mono (by omega) : Rm _ (k + 1))
        · obtain rfl := hx
          obtain ⟨_, rfl⟩ := hy
          exact has_true (S₄.keeps F'.keep) (rm'.mono (by omega) : Rm _ (k + 2)) (isM' F'.keep) hsrt (by omega) i2
      · rintro v h ⟨a, ys, n, rfl, r, g, rfl⟩
        exact ⟨a, _, n, rfl, r, g, .nil⟩
      · refine wpAny_mono (ne_LP (isO_of ha) (isO_of hb) rm'.cl) (fun v s'' z => ⟨?_, z.2⟩) fun _ _ z => z
        rw [z.1]; simp
      obtain ⟨h₅, t₅, rfl, k₅⟩ := k₅
      refine wpAny_execs_nil ?_
      dsimp only
      have Y := Y.sub k₅
      have S₅ : Sta w h₅ := S.keeps Y.X.F.keep
      clear isM' S₄ k₅
      -- left, kinds
      refine wpC_execs_cons (wpC_any (asg2n rm'.hh (Ev.use (ref := h₅) (R := isL h₅ fun vs => PA vs ms) (ev_call1 (R₁ := eqv (.ref Mm)) S₅ (.inl ⟨_, rfl⟩) (ev_boot S₅ (by kernel_rfl) (by rfl)) (ev_cell (c := s.heap.objs.size + 1) (by rfl) (Y.d1 ▸ Y.X.cell _ _ (by rfl))) fun a s' F' ha => ?_) Y.X.fm fun a s₆ ha k₆ => (ev_list0 (ref := s₆.heap)).use ⟨Sub.refl _, (Y.X.fm.keeps (ksub k₆)).ns⟩ fun b s₇ hb k₇ h₈ k₈ => ?_)))
      · obtain rfl := ha
        exact cl_list_list (isO_at (F'.keep _ _ Y.gM) hPM) (fun vs h => by have := pa_len h; omega) F'.keep
      obtain ⟨Lf, vl, nl, rfl, rLf, gLf, hPl⟩ := ha
      obtain ⟨Kk, _, nk, rfl, rKk, gKk, rfl⟩ := hb
      obtain ⟨h₆, t₆, rfl, k₆⟩ := k₆
      obtain ⟨h₇, t₇, rfl, k₇⟩ := k₇
      have LfKk : Lf ≠ Kk := ne_of_get gLf rKk
      have MKk : Mm ≠ Kk := ne_of_get (k₆ _ _ Y.gM) rKk
      have DKk : Dt ≠ Kk := ne_of_get (k₆ _ _ Y.gD) rKk
      have oLf := Y.X.new rLf
      have oKk := (Y.sub k₆).X.new rKk
      have nKk : s.heap.get? Kk = none := none_of_sub (Y.sub k₆).X.F.keep rKk
      have Y := Y.sub (Sub.trans (Sub.trans k₆ k₇) k₈)
      refine storeLC (c := s.heap.objs.size + 6) Y.X (by rfl) fun h₉ t₉ X₉ c₉ => ?_
      refine storeLL X₉ fun h₁₀ t₁₀ X₁₀ c₁₀ => ?_
      have V : WI ⟨s.heap, s.heap.objs.size, _, .bytes (PB p).toArray tp, .bytes (PB q).toArray tq, Mm, PySem.W.listOf vm.toArray nm, .int (ms.length : Nat) tn, Dt, oDt⟩ Kk ms h₁₀ _ _ Lf ms [] ms.length :=
        ⟨(Y.setC X₉ c₉ (by decide) (by decide) (by decide)).setL X₁₀ c₁₀ (by decide) (by decide), upd_at, upd_at, ⟨_, _, c₁₀ _ _ oLf (c₉ _ _ oLf (k₈ _ _ (k₇ _ _ gLf))), hPl⟩, oLf, LfKk,
          ⟨_, _, c₁₀ _ _ oKk (c₉ _ _ oKk (k₈ _ _ gKk)), .nil⟩, Nat.le_refl _, rfl, by simp⟩
      clear Y X₉ X₁₀ c₉ c₁₀ k₈ k₇ k₆ gLf gKk rLf rKk S₅
      -- while left != []
      refine wpC_execs_cons (wpC_While ?_)
      refine codeC_whileLoop (fun n s' => ∃ h tk m cm Lf left ks f, s' = { s with heap := h, toks := tk } ∧ WI ⟨s.heap, s.heap.objs.size, _, .bytes (PB p).toArray tp, .bytes (PB q).toArray tq, Mm, PySem.W.listOf vm.toArray nm, .int (ms.length : Nat) tn, Dt, oDt⟩ Kk ms h m cm Lf left ks f ∧ n = left.length) ?_ ms.length
        ⟨h₁₀, _, _, _, Lf, ms, [], ms.length, rfl, V, rfl⟩
      clear V hPl oLf LfKk
      rintro n _ ⟨h, tk, m, cm, Lf, left, ks, f, rfl, V, rfl⟩
      obtain ⟨vl, nl, gL, hPl⟩ := V.gL
      refine Tr.use (ref := h) (b := !decide (left = [])) (tr_cmp (R₁ := eqv (.ref Lf)) (R₂ := isL h fun ys => PA ys []) (ev_cell (c := s.heap.objs.size + 6) (by rfl) (V.d6 ▸ V.Y.X.cell _ _ (by rfl))) (Ev.mono ev_list0 ?_) fun a b s' E' F' ha hb => ?_) V.Y.X.fm fun s₁₁ k₁₁ => ?_
      · rintro v h ⟨a, ys, n, rfl, r, g, rfl⟩
        exact ⟨a, _, n, rfl, r, g, .nil⟩
      · obtain rfl := ha
        exact ne_LP (isO_at (F'.keep _ _ gL) hPl) (isO_of hb) rm'.cl
      obtain ⟨h₁₁, t₁₁, rfl, k₁₁⟩ := k₁₁
      have V := V.sub k₁₁
      have gL := k₁₁ _ _ gL
      have S₁₁ : Sta w h₁₁ := S.keeps V.Y.X.F.keep
      clear k₁₁
      have isM' : ∀ {h' : Heap}, Sub h₁₁ h' → (isO fun vs => PA vs ms).p (.ref Mm) h' := fun k => isO_at (k _ _ V.Y.gM) hPM
      by_cases hne : left ≠ []
      · obtain ⟨x, r, rfl⟩ := List.exists_cons_of_ne_nil hne
        rw [if_pos (by simp)]
        have hx := self_cls fa.zero x
        have lcl := cls_len ms x
        have hle := V.le
        have hfew := V.few
        rw [List.length_cons] at hle hfew
        obtain ⟨vx, hvx, ⟨tx, rfl⟩⟩ : ∃ y, vl[0]? = some y ∧ vP y x := by cases hPl; exact ⟨_, rfl, by assumption⟩
        -- kind
        refine wpC_execs_cons (casgLC (c := s.heap.objs.size + 7) V.Y.X (by rfl) (R := isL h₁₁ fun vs => PA vs (cls ms x)) (fun Q' kQ => c_call1C (ref := h₁₁) (f := .builtin "sorted") (R₁ := isD PySem.Challenge.rw_ho0001_01.row.prog w h₁₁ (fun _ _ => True) ((ms.map (cjg x)).foldl addK [])) (ev_boot S₁₁ (by kernel_rfl) (by rfl)) V.Y.X.fm (fun h k => kp_builtin)
          (fun s₁ Q₁ k₁ kQ₁ => c_call1C (ref := h₁₁) (f := .type "dict") (R₁ := isLY h₁₁ (pairY fun _ _ => True) (ms.map (cjg x))) (ev_boot S₁₁ (by kernel_rfl) (by rfl)) (V.Y.X.fm.keeps (ksub k₁)) (fun h k => kp_type)
            (fun s₂ Q₂ k₂ kQ₂ => c_listcomp (ref := h₁₁) (ps := ms) (P := vP) ⟨fun _ _ => False, fun b o => TG (fun _ _ => True) (cjg x b) o⟩ (fun _ => true) rm'.hh (Ev.mono' (ev_cell (c := s.heap.objs.size + 1) (by rfl) (V.Y.d1 ▸ V.Y.X.cell _ _ (by rfl))) fun v s' F' e => ?_) (V.Y.X.fm.keeps (ksub (ktrans k₁ k₂))) (by omega) (fun _ _ _ _ _ _ => trs_nil) (fun C m₃ v a hv _ hm s₃ E₃ F₃ => ?_) fun v s₃ k₃ hv => kQ₂ v s₃ k₃ (isLY_map (by rw [filt] at hv; exact hv)))
            (fun a s₂ k₂ ha => wpC_any ((cl_dict rm'.hh ha (by rw [List.length_map]; omega) (V.Y.X.fm.keeps (ksub (ktrans k₁ k₂))).keep (S₁₁.keeps (ksub (ktrans k₁ k₂)))).use fun v s₃ hv k₃ => kQ₁ v s₃ (ktrans k₂ k₃) hv)))
          (fun a s₁ k₁ ha => wpC_any ((cl_sortedD rm'.hh ha (by rw [← (cls_perm ms x).length_eq]; omega) (V.Y.X.fm.keeps (ksub k₁)).keep (cls_perm ms x) (cls_sorted ms x)).use fun v s₂ hv k₂ => kQ v s₂ (ktrans k₁ k₂) hv))) fun v h₁₂ h₁₃ t₁₃ hv k₁₂ c₁₃ X₁₃ => ?_)
        · obtain rfl := e
          exact isM' F'.keep
        · obtain ⟨ta, rfl⟩ := hv
          refine wpC_any (tup2 (Ev.use (ref := h₁₁) (R := isP (cjg x a)) (ev_call2 (f := .ref 44) (R₁ := isP (mul (Mine.inv a) x)) (R₂ := eqv (.bytes (PB a).toArray ta)) S₁₁ (.inr (.inr (by kernel_rfl))) (ev_glob S₁₁ (by with_unfolding_all rfl))
            (ev_call2 (f := .ref 44) (R₁ := isP (Mine.inv a)) (R₂ := isP x) S₁₁ (.inr (.inr (by kernel_rfl))) (ev_glob S₁₁ (by with_unfolding_all rfl)) (ev_call1 (f := .ref 84) (R₁ := eqv (.bytes (PB a).toArray ta)) S₁₁ (.inr (.inr (by kernel_rfl))) (ev_glob S₁₁ (by with_unfolding_all rfl)) (ev_local hm) fun y s' F' hy => ?_)
              (ev_sub (R₁ := eqv (.ref Lf)) (R₂ := isI 0) (ev_cell (c := s.heap.objs.size + 6) (by rfl) (V.d6 ▸ V.Y.X.cell _ _ (by rfl))) ev_int fun y z s' E' F' hy hz => ?_) fun y z s' F' hy hz => ?_) (ev_local hm) fun y z s' F' hy hz => ?_) F₃ fun u s₄ hu k₄ => Ev.use (ref := h₁₁) (R := isI 1) ev_int (F₃.keeps (ksub k₄)) fun b s₅ hb k₅ => ?_))
          · obtain rfl := hy
            exact back_c (S₁₁.keeps F'.keep) (rm'.mono (by omega) : Rm _ (k + 1))
          · obtain rfl := hy
            obtain ⟨_, rfl⟩ := hz
            exact sub_list (k := 0) (isO_at (P := fun vs => vs = vl) (F'.keep _ _ gL) rfl) ⟨_, rfl⟩ (by rintro _ rfl; exact ⟨_, hvx, _, rfl⟩) (by decide)
          · obtain ⟨_, rfl⟩ := hy
            obtain ⟨_, rfl⟩ := hz
            exact then_c (S₁₁.keeps F'.keep) (rm'.mono (by omega) : Rm _ (k + 1))
          · obtain ⟨_, rfl⟩ := hy
            obtain rfl := hz
            exact then_c (S₁₁.keeps F'.keep) (rm'.mono (by omega) : Rm _ (k + 1))
          · exact ⟨.inr ⟨_, _, rfl, none_of_sub (ksub (ktrans k₄ k₅)) (new_none _), Heap.get?_push_size _ rfl, u, b, rfl, hu, trivial⟩, ktrans (ktrans k₄ k₅) (kof fun b o e => Heap.get?_push_of_some _ e)⟩
        obtain ⟨Kd, vd, nd, rfl, rKd, gKd, hPd⟩ := hv
        have oKd := V.Y.X.new rKd
        obtain ⟨vk, nk, gK, hI⟩ := V.gK
        have lvk : vk.length = ks.length := by have := pa_len hI; rwa [List.length_map] at this
        have KdK : Kk ≠ Kd := ne_of_get gK rKd
        have gL := c₁₃ _ _ V.oL (k₁₂ _ _ gL)
        have gK := c₁₃ _ _ oKk (k₁₂ _ _ gK)
        have gKd := c₁₃ _ _ oKd gKd
        obtain ⟨cm', d7, d6, Y⟩ : ∃ cm', cm' (Str.ofString "kind") = some (.ref Kd) ∧ cm' (Str.ofString "left") = some (.ref Lf) ∧ LS ⟨s.heap, s.heap.objs.size, _, .bytes (PB p).toArray tp, .bytes (PB q).toArray tq, Mm, PySem.W.listOf vm.toArray nm, .int (ms.length : Nat) tn, Dt, oDt⟩ h₁₃ m cm' :=
          ⟨_, upd_at, upd_ne (by decide) V.d6, (V.Y.sub k₁₂).setC X₁₃ c₁₃ (by decide) (by decide) (by decide)⟩
        clear X₁₃ c₁₃
        have S₁₃ : Sta w h₁₃ := S.keeps Y.X.F.keep
        refine wpC_execs_cons (wpC_any (wpAny_Expr_any (use_append (ref := h₁₃) (D := Kk) (R₁ := isI ((cls ms x).length : Nat)) (ev_local V.m10) (ev_call1 (R₁ := eqv (.ref Kd)) S₁₃ (.inr (.inl ⟨_, rfl⟩)) (ev_boot S₁₃ (by kernel_rfl) (by rfl)) (ev_cell (c := s.heap.objs.size + 7) (by rfl) (d7 ▸ Y.X.cell _ _ (by rfl))) fun a s' F' ha => ?_) Y.X.fm gK (by omega) fun a h₁₄ h₁₅ t₁₅ ha k₁₄ x₁₅ gK => ?_)))
        · obtain rfl := ha
          exact cl_len (isO_at (F'.keep _ _ gKd) (pa_len hPd)) (by omega)
        have Y := (Y.sub k₁₄).ext oKk nKk x₁₅ MKk DKk
        have gL := x₁₅ _ _ V.LfK (k₁₄ _ _ gL)
        have gKd := x₁₅ _ _ KdK.symm (k₁₄ _ _ gKd)
        obtain ⟨_, rfl⟩ := ha
        dsimp only
        refine wpC_execs_cons (wpC_any (asgLC (c := s.heap.objs.size + 6) Y.X (by rfl) (ev_compP (ps := x :: r) (fun y => !decide (y ∈ cls ms x)) rm'.hh (Ev.mono' (ev_cell (c := s.heap.objs.size + 6) (by rfl) (d6 ▸ Y.X.cell _ _ (by rfl))) fun v s' F' e => ?_) (fun C m₃ v a hv ha hm => ?_) (by rw [List.length_cons]; omega)) fun v h₁₆ h₁₇ t₁₇ hv k₁₆ c₁₇ X₁₇ => ?_))
        · obtain rfl := e
          exact isO_at (F'.keep _ _ gL) hPl
        · exact trs_one (tr_cmp (R₁ := eqv v) (R₂ := eqv (.ref Kd)) (ev_local hm) (ev_cell (c := s.heap.objs.size + 7) (by rfl) (d7 ▸ Y.X.cell _ _ (by rfl))) fun y z s' E' F' hy hz => by
            obtain rfl := hy
            obtain rfl := hz
            exact notin_LP (isO_at (F'.keep _ _ gKd) hPd) hv)
        obtain ⟨Lg, vg, ng, rfl, rLg, gLg, hPg⟩ := hv
        refine wpC_any (wpAny_execs_nil ?_)
        have hlt : ((x :: r).filter fun y => !decide (y ∈ cls ms x)).length ≤ r.length := by
          rw [List.filter_cons_of_neg (by simp [hx])]; exact List.length_filter_le _ _
        obtain ⟨f, rfl⟩ : ∃ f', f = f' + 1 := ⟨f - 1, by omega⟩
        have oLg := Y.X.new rLg
        refine ⟨_, Nat.lt_of_le_of_lt hlt (by simp), h₁₇, _, _, _, Lg, _, ks ++ [(cls ms x).length], f, rfl, ⟨(Y.sub k₁₆).setC X₁₇ c₁₇ (by decide) (by decide) (by decide), upd_at, V.m10, ⟨_, _, c₁₇ _ _ oLg gLg, hPg⟩, oLg, Ne.symm (ne_of_get gK rLg), ⟨_, _, c₁₇ _ _ oKk (k₁₆ _ _ gK), ?_⟩, by omega, ?_, ?_⟩, rfl⟩
        · rw [List.map_append]; exact pa_append hI (.cons ⟨_, rfl⟩ .nil)
        · rw [List.append_assoc]; exact V.kin
        · rw [List.length_append, List.length_singleton]; omega
      · obtain rfl := Classical.not_not.mp hne
        rw [if_neg (by simp)]
        have hks : ks = kindsOf ms ms.length ms := by rw [← V.kin]; cases f <;> simp [kindsOf]
        obtain rfl := hks
        obtain ⟨vk, nk, gK, hI⟩ := V.gK
        have lks := V.few
        rw [List.length_nil] at lks
        have Y := V.Y
        have m10 := V.m10
        clear V gL hPl
        -- still
        refine wpC_execs_cons (c_asgcompC (ps := ms) (P := vP) (fun a => decide ((ms.filter fun b => !decide (mul a b = mul b a)) = [])) rm'.hh Y.X.F (Ev.mono' (ev_cell (c := s.heap.objs.size + 1) (by rfl) (Y.d1 ▸ Y.X.cell _ _ (by rfl))) fun v s' F' e => ?_) (by omega) (fun C c h m₃ v a hv kh hc => ?_) fun D ys n' h₁₂ t₁₂ rD x₁₂ F₁₂ gD₁₂ hPs => ?_)
        · obtain rfl := e
          exact isM' F'.keep
        · obtain ⟨ta, rfl⟩ := hv
          refine trs_one (tr_cmp (R₁ := isL h fun ys => PA ys (ms.filter fun b => !decide (mul a b = mul b a))) (R₂ := isL h fun ys => PA ys []) (ev_compP (fun b => !decide (mul a b = mul b a)) rm'.hh (Ev.mono' (ev_cell (c := s.heap.objs.size + 1) (by rfl) ((Y.sub kh).d1 ▸ (Y.sub kh).X.cell _ _ (by rfl))) fun v s' F' e => ?_) (fun C' m₄ v b hv hb hm => ?_) (by omega)) (Ev.mono ev_list0 ?_) fun y z s' E' F' hy hz => ?_)
          · obtain rfl := e
            exact isM' (Sub.trans kh F'.keep)
          · obtain ⟨tb, rfl⟩ := hv
            have Sh : Sta w h := S₁₁.keeps kh
            refine trs_one (tr_cmp (R₁ := isP (mul a b)) (R₂ := isP (mul b a)) (ev_call2 (f := .ref 44) (R₁ := eqv (.bytes (PB a).toArray ta)) (R₂ := eqv (.bytes (PB b).toArray tb)) Sh (.inr (.inr (by kernel_rfl))) (ev_glob Sh (by with_unfolding_all rfl)) (ev_cell (c := c) (by rfl) hc) (ev_local hm) fun y z s' F' hy hz => ?_)
              (ev_call2 (f := .ref 44) (R₁ := eqv (.bytes (PB b).toArray tb)) (R₂ := eqv (.bytes (PB a).toArray ta)) Sh (.inr (.inr (by kernel_rfl))) (ev_glob Sh (by with_unfolding_all rfl)) (ev_local hm) (ev_cell (c := c) (by rfl) hc) fun y z s' F' hy hz => ?_) fun y z s' E' F' hy hz => ?_)
            · obtain rfl := hy
              obtain rfl := hz
              exact then_c (Sh.keeps F'.keep) (rm'.mono (by omega) : Rm _ (k + 1))
            · obtain rfl := hy
              obtain rfl := hz
              exact then_c (Sh.keeps F'.keep) (rm'.mono (by omega) : Rm _ (k + 1))
            · obtain ⟨_, rfl⟩ := hy
              obtain ⟨_, rfl⟩ := hz
              exact ne_P ⟨rfl, krefl _⟩
          · rintro v h ⟨a, ys, n, rfl, r, g, rfl⟩
            exact ⟨a, _, n, rfl, r, g, .nil⟩
          · exact eq_LP (isO_of hy) (isO_of hz) rm'.cl
        dsimp only
        obtain ⟨m, m12, m10, Y⟩ : ∃ m', m' (Str.ofString "still") = some (.ref D) ∧ m' (Str.ofString "kinds") = some (.ref Kk) ∧ LS ⟨s.heap, s.heap.objs.size, _, .bytes (PB p).toArray tp, .bytes (PB q).toArray tq, Mm, PySem.W.listOf vm.toArray nm, .int (ms.length : Nat) tn, Dt, oDt⟩ h₁₂ m' cm :=
          ⟨_, upd_at, upd_ne (by decide) m10, Y.setL (Y.X.loc F₁₂ x₁₂) (chg_L x₁₂) (by decide) (by decide)⟩
        have gK := x₁₂ _ _ oKk.1 gK
        have S₁₂ : Sta w h₁₂ := S.keeps Y.X.F.keep
        have lC : (ms.filter fun a => decide ((ms.filter fun b => !decide (mul a b = mul b a)) = [])).length ≤ ms.length := List.length_filter_le _ _
        clear F₁₂ x₁₂ isM' S₁₁
        -- the sums
        refine wpC_execs_cons (wpC_any (if_ (ref := h₁₂) (b := false || (false || (false || false))) Y.X.fm (tr_boolop (tra_or_cons (tr_cmp (c := false) (R₁ := isI ((kindsOf ms ms.length ms).sum : Nat)) (R₂ := eqv (.int (ms.length : Nat) tn)) (ev_call1 (R₁ := eqv (.ref Kk)) S₁₂ (.inr (.inl ⟨_, rfl⟩)) (ev_boot S₁₂ (by kernel_rfl) (by rfl)) (ev_local m10) fun a s' F' ha => ?_)
            (ev_cell (c := s.heap.objs.size + 2) (by rfl) (Y.d2 ▸ Y.X.cell _ _ (by rfl))) fun a b s' E' F' ha hb => ?_)
          fun _ => tra_or_cons (tr_cmp (c := false) (R₁ := isL h₁₂ fun ys => PA ys []) (R₂ := isL h₁₂ fun ys => PA ys []) (ev_comp0 (ks := kindsOf ms ms.length ms) rm'.hh (Ev.mono' (ev_local m10) fun v s' F' e => ?_) (fun C m₃ v n hn hv hm => ?_) (by omega)) (Ev.mono ev_list0 ?_) fun a b s' E' F' ha hb => ?_)
          fun _ => tra_or_cons (tr_cmp (c := false) (R₁ := isI (((kindsOf ms ms.length ms).map fun (n : Nat) => (n : Int)).count 1 : Nat)) (R₂ := isI ((ms.filter fun a => decide ((ms.filter fun b => !decide (mul a b = mul b a)) = [])).length : Nat)) (ev_count (ev_local m10) ev_int gK hI)
            (ev_call1 (R₁ := eqv (.ref D)) S₁₂ (.inr (.inl ⟨_, rfl⟩)) (ev_boot S₁₂ (by kernel_rfl) (by rfl)) (ev_local m12) fun a s' F' ha => ?_) fun a b s' E' F' ha hb => ?_) fun _ => tra_or_nil)) fun s₁₃ k₁₃ => ?_))
        · obtain rfl := ha
          exact cl_sum rm'.hh (isO_at (F'.keep _ _ gK) hI) (by rw [fa.sum]; omega) (by omega)
        · obtain ⟨_, rfl⟩ := ha
          obtain rfl := hb
          exact ne_int ⟨by rw [fa.sum]; simp, krefl _⟩
        · obtain rfl := e
          exact isO_at (F'.keep _ _ gK) hI
        · obtain ⟨tv, rfl⟩ := hv
          have hn0 := fa.parts n hn
          have hpos : n ≠ 0 := by
            rintro rfl
            have := List.length_pos_of_mem fa.zero
            omega
          refine trs_one (tr_cmp (R₁ := isI ((ms.length % n : Nat) : Int)) (R₂ := isI 0) (ev_bin (R₁ := eqv (.int (ms.length : Nat) tn)) (R₂ := eqv (.int (n : Int) tv)) (ev_cell (c := s.heap.objs.size + 2) (by rfl) (Y.d2 ▸ Y.X.cell _ _ (by rfl))) (ev_local hm) fun x y s' E' F' hx hy => ?_) ev_int fun x y s' E' F' hx hy => ?_)
          · obtain rfl := hx
            obtain rfl := hy
            refine mod_int (by omega) ⟨⟨s'.toks, ?_⟩, kof (Sub.refl _)⟩
            rw [Int.fmod_eq_emod_of_nonneg _ (by omega)]
            rfl
          · obtain ⟨_, rfl⟩ := hx
            obtain ⟨_, rfl⟩ := hy
            exact ne_int ⟨by rw [hn0]; rfl, krefl _⟩
        · rintro v h ⟨a, ys, n, rfl, r, g, rfl⟩
          exact ⟨a, _, n, rfl, r, g, .nil⟩
        · refine wpAny_mono (ne_LP (isO_of ha) (isO_of hb) rm'.cl) (fun v s'' z => ⟨?_, z.2⟩) fun _ _ z => z
          rw [z.1]; simp
        · obtain rfl := ha
          exact cl_len (isO_at (F'.keep _ _ gD₁₂) (pa_len hPs)) (by omega)
        · obtain ⟨_, rfl⟩ := ha
          obtain ⟨_, rfl⟩ := hb
          refine ne_int ⟨?_, krefl _⟩
          rw [count_cast, fa.ones, show (ms.filter fun a => decide ((ms.filter fun b => !decide (mul a b = mul b a)) = [])) = centre ms from rfl]
          simp
        obtain ⟨h₁₃, t₁₃, rfl, k₁₃⟩ := k₁₃
        refine wpAny_execs_nil ?_
        dsimp only
        have Y := Y.sub k₁₃
        have S₁₃ : Sta w h₁₃ := S.keeps Y.X.F.keep
        clear k₁₃ S₁₂ gK hI gD₁₂ hPs m10 m12
        -- turned
        refine wpC_execs_cons (c_asgcomp (ps := [p, q]) (P := vP) (fun a y => vP y (turnP a)) (fun _ => true) rm'.hh Y.X.F (Ev.mono (ev_list2 (ev_local Y.m1) (ev_local Y.m2)) ?_) (by simp) (fun _ _ _ _ _ _ => trs_nil) (fun C m₃ v a hv _ hm s₃ E₃ F₃ => ?_) fun D ys n' h₁₄ t₁₄ rD x₁₄ F₁₄ gD₁₄ hPt => ?_)
        · rintro v h ⟨a, ys, n, rfl, r, g, x, y, h', rfl, hx, hy⟩
          exact ⟨a, _, n, rfl, g, .cons ⟨_, hx⟩ (.cons ⟨_, hy⟩ .nil)⟩
        · obtain ⟨ta, rfl⟩ := hv
          refine c_call1C (ref := h₁₃) (f := .type "bytes") (R₁ := isL h₁₃ fun vs => IA vs ((bI (PB (revP a))).map fun n => 3 - n)) (ev_boot S₁₃ (by kernel_rfl) (by rfl)) F₃ (fun h k => kp_type)
            (fun s₁ Q' k₁ kQ => c_compB (ref := h₁₃) (b := PB (revP a)) (fun n => 3 - n) rm'.hh (F₃.keeps (ksub k₁)) (fun Q₁ kQ₁ => c_call2 (ref := h₁₃) (f := .ref 21) (R₁ := eqv (.bytes (PB a).toArray ta)) (R₂ := isI 4) (ev_glob S₁₃ (by with_unfolding_all rfl)) (ev_local hm) ev_int (F₃.keeps (ksub k₁)) (fun h kk => kp_K (by kernel_rfl) (S₁₃.keeps kk).K) fun x y s' kk hx hy => ?_) (fun C' m₄ v n hv hm' => ?_) (pb_len _) fun l s' kk hl => kQ l s' kk hl)
            (fun l s' kk hl => wpC_any ((cl_bytes rm'.hh (isO_of hl) (turn_small a) (turn_len a)).use fun v s'' hv k₂ => ?_))
          · obtain rfl := hx
            obtain ⟨_, rfl⟩ := hy
            refine swap_c (S₁₃.keeps ((F₃.keeps (ksub k₁)).keeps (ksub kk)).keep) (rm'.mono (by omega) : Rm _ (k + 1)) fun v s'' hv k₂ => ?_
            obtain ⟨tv, rfl⟩ := hv
            exact kQ₁ _ _ (ktrans kk k₂)
          · obtain ⟨tv, rfl⟩ := hv
            refine ev_bin (R₁ := isI 3) (R₂ := eqv (.int n tv)) ev_int (ev_local hm') fun x y s' E' F' hx hy => ?_
            obtain ⟨_, rfl⟩ := hx
            obtain rfl := hy
            exact sub_int ⟨⟨s'.toks, rfl⟩, kof (Sub.refl _)⟩
          · obtain ⟨tv, rfl⟩ := hv
            exact ⟨⟨_, by rw [turn_bytes]⟩, ktrans kk k₂⟩
        dsimp only
        obtain ⟨m, m14, Y⟩ : ∃ m', m' (Str.ofString "turned") = some (.ref D) ∧ LS ⟨s.heap, s.heap.objs.size, _, .bytes (PB p).toArray tp, .bytes (PB q).toArray tq, Mm, PySem.W.listOf vm.toArray nm, .int (ms.length : Nat) tn, Dt, oDt⟩ h₁₄ m' cm :=
          ⟨_, upd_at, Y.setL (Y.X.loc F₁₄ x₁₄) (chg_L x₁₄) (by decide) (by decide)⟩
        have S₁₄ : Sta w h₁₄ := S.keeps Y.X.F.keep
        clear F₁₄ x₁₄ S₁₃
        -- the last
        have hPt' : PA ys [turnP p, turnP q] := pa_map (f := turnP) (fun _ _ h => h) (by rw [filt] at hPt; exact hPt)
        refine wpC_any (wpAny_execs_cons (wpAny_Return_some (Ev.use (ref := h₁₄) (R := isB true) (ev_cmp (R₁ := isI ((made [turnP p, turnP q]).length : Nat)) (R₂ := eqv (.int (ms.length : Nat) tn)) (ev_call1 (R₁ := isL h₁₄ fun vs => PA vs (made [turnP p, turnP q])) S₁₄ (.inr (.inl ⟨_, rfl⟩)) (ev_boot S₁₄ (by kernel_rfl) (by rfl)) (ev_call1 (f := .ref 58) (R₁ := eqv (.ref D)) S₁₄ (.inr (.inr (by kernel_rfl))) (ev_glob S₁₄ (by with_unfolding_all rfl)) (ev_local m14) fun a s' F' ha E' => ?_) fun a s' F' ha => ?_)
          (ev_cell (c := s.heap.objs.size + 2) (by rfl) (Y.d2 ▸ Y.X.cell _ _ (by rfl))) fun a b s' E' F' ha hb => ?_) Y.X.fm fun v s' hv kk => ?_)))
        · obtain rfl := ha
          exact wpAny_mono (made_c (S₁₄.keeps F'.keep) (rm'.mono (by omega) : Rm _ (k + 4)) (isO_at (F'.keep _ _ gD₁₄) hPt') E') (fun v s'' z => ⟨isL_ref z.1 F'.keep, z.2⟩) fun _ _ z => z
        · exact cl_len (isO_mono (fun vs h => pa_len h) (isO_of ha)) (by omega)
        · obtain ⟨_, rfl⟩ := ha
          obtain rfl := hb
          exact eq_int ⟨by rw [hlen, beq_self_eq_true]; rfl, krefl _⟩
        · obtain rfl := hv
          obtain ⟨h₁₅, t₁₅, rfl, k₁₅⟩ := kk
          exact K _ (kof (Sub.trans Y.X.F.keep k₁₅))
end Mine
end

section
open PySem PySem.W PyProof.Rows PySem.Calls
set_option maxRecDepth 100000
set_option linter.unusedVariables false
set_option maxHeartbeats 4000000
namespace Mine
theorem fin_holds : PySem.Challenge.rw_ho0001_01.Holds := by
  apply hd
  intro w s₀ s₁ mg mb G Y fa o pm cd doc dV kV ho hdd hcd hD hmg hg args vals as hpre hlay hrd hwl hlo
  have KX := kIn_of Y
  have T := G.T
  have S : Sta w s₁.heap := ⟨KX, _, _, _, _, T⟩
  have hf : mg (Str.ofString "law") = some (.ref 89) := mg_of KX T.g (by kernel_rfl)
  have e89 : fa = 89 := by
    have := hmg.symm.trans hf
    cases this
    rfl
  subst e89
  have rm : Rm callerA (0 + 8) := ⟨rfl, by decide, by decide⟩
  clear hdd hcd hD ho KX hmg
  wrow_args hpre hlay hrd hwl hlo
  rename_i ns _ _ _ _ _ _ _ a vs _ hL _ _ _ hI _ hc1 _
  have hlen : vs.length = ns.length := pa_len (IA.of hI)
  refine law_c (k := 0) S rm ⟨a, vs, rfl, hL, ?_, ns, IA.of hI⟩ fun s' kk => ?_
  · rw [hlen]
    have : (ns.length : Int) ≤ 63 := by omega
    omega
  · obtain ⟨h', t', rfl, k'⟩ := kk
    exact GoodW.toG ⟨.inl ⟨.bool true, .bool true, [], rfl, raisesW_false (by wrow_none_raised), .bool true, by wrow_post, unshared_nil⟩, k', rfl, hg⟩
end Mine
end

theorem PySem.Challenge.cw_ho0001_01_holds : PySem.Challenge.rw_ho0001_01.Holds := by
  exact Mine.fin_holds
