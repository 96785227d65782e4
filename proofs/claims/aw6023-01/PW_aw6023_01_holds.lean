import PyProof.Rows.All
import Wide.All
import OpenK.AllK
import Wide.FinOn
import KE.KDictSum
import KE.KEqDict
import KE.KDictOf
import Lean
import PySem.Challenge.RW_aw6023_01
set_option Elab.async false

-- HeadOk
section
open PySem PySem.W PyProof.Rows PySem.Calls
set_option Elab.async false
set_option maxRecDepth 100000
set_option linter.unusedVariables false
namespace Mine

/-- the frame of the collector's finaliser: no context of ours bears it -/
def isFin : Code → Bool
  | .builtin id _ => id == "lifetime.gc.finalise"
  | _ => false
def bad (st : List (Code × Pos)) : Bool := st.any fun c => isFin c.1
/-- wpAny over the contexts that bear no such frame -/
def wpOk {α : Type} (M : Model) (A : Around) (t : Sem α) (Q : α → Shared → Prop) (E : Value → Shared → Prop) (s : Shared) : Prop :=
  ∀ Γ p, Γ.In A → isFin Γ.code = false → bad Γ.below = false → Sem.wp M Γ t (fun a _ s' => Q a s') (fun e _ s' => E e s') p s
theorem ok_any {α : Type} {M : Model} {A : Around} {t : Sem α} {Q : α → Shared → Prop} {E : Value → Shared → Prop} {s : Shared} (h : wpAny M A t Q E s) : wpOk M A t Q E s := fun Γ p hΓ _ _ => h Γ p hΓ

def guarded {α : Type} (v : α) (t : Sem α) : Sem α := stack >>= fun st => if bad st then pure v else t
theorem guarded_any {α : Type} {M : Model} {A : Around} {v : α} {t : Sem α} {Q : α → Shared → Prop} {E : Value → Shared → Prop} {s : Shared} (hv : Q v s) (h : wpOk M A t Q E s) : wpAny M A (guarded v t) Q E s := fun Γ p hΓ => by
  unfold guarded
  rw [Sem.wp_bind']
  show Sem.wp M Γ (if bad ((Γ.code, p) :: Γ.below) then pure v else t) _ _ p s
  cases hb : bad ((Γ.code, p) :: Γ.below) with
  | true => exact hv
  | false =>
    have hb' : (isFin Γ.code || bad Γ.below) = false := hb
    rw [Bool.or_eq_false_iff] at hb'
    exact h Γ p hΓ hb'.1 hb'.2

theorem callFrom_guarded {c : ClaimW} {tree : List Value → Sem Fin} {v : Fin} {w : World} {s : Shared} {free : Addr → Prop} {gens : Prop} {kept : Heap → Prop} (hz : s.asleep)
    (h : c.CallFrom (fun vs => ⟨guarded v (tree vs), .builtin "claim.caller" {}, default, []⟩) w free gens kept s) : c.CallFrom (fun vs => ⟨tree vs, .builtin "claim.caller" {}, default, []⟩) w free gens kept s := by
  intro args hpre hlay ord hord
  obtain ⟨vs, s₁, hl, n, o, s', hrun, rest⟩ := h args hpre hlay ord hord
  have hal := layAllW_rest _ _ _ hl
  refine ⟨vs, s₁, hl, ?_⟩
  cases n with
  | zero => cases hrun
  | succ n =>
    have e := sstep_single (denote table) c.prog w s₁ ⟨guarded v (tree vs), .builtin "claim.caller" {}, default, []⟩ (by kernel_rfl) (Shared.asleep_of_life hal.2.2.2 hz)
    have hstep : step (denote table) c.prog w s₁ ⟨guarded v (tree vs), .builtin "claim.caller" {}, default, []⟩ = .go s₁ ⟨tree vs, .builtin "claim.caller" {}, default, []⟩ := rfl
    rw [hstep] at e
    rcases e with e | e
    · refine ⟨n, o, s', ?_, rest⟩
      simp only [schedN, e] at hrun
      exact hrun
    · cases e

theorem noCount {p : Program} {w : World} {s₀ s : Shared} {mc : Str → Option Value} (hT : TopRan p w s₀ s) (hc : s.heap.Ns cStatics mc) (hi : importedModules p.main.body = []) : mc "_thread.count" = none := by
  obtain ⟨_, _, _, _, h, _⟩ := hT
  rw [hi] at h
  obtain ⟨o, es, ep, ho, hd, hk, hf⟩ := hc
  have e : staticOf s.heap "_thread.count" = mc "_thread.count" := by
    simp only [staticOf, ho, hd]
    exact hf _
  cases hm : mc "_thread.count" with
  | none => rfl
  | some v =>
    rw [hm] at e
    rcases h _ _ e with q | q | q | q | q | q | q
    · exact absurd q (by decide +kernel)
    · exact absurd q (by decide +kernel)
    · obtain ⟨m, hm, _⟩ := q; cases hm
    · obtain ⟨m, hm, _⟩ := q; cases hm
    · obtain ⟨⟨m, hm, _⟩, _⟩ := q; cases hm
    · obtain ⟨m, _, _, hm, _⟩ := q; cases hm
    · obtain ⟨m, hm, _⟩ := q; cases hm

abbrev WalkOk (q : Program) (loose : List Str) (XP : (Str → Option Value) → Heap → Prop) (YP : World → Heap → Prop) (r : RowW) (d : DefRec) (kwd : List (Str × Expr)) : Prop :=
  ∀ (w : World) (s₀ s₁ : Shared) (mg mb : Str → Option Value), Ground q loose r.records XP w s₀ mg mb s₁.heap → YP w s₁.heap → ∀ (a : Addr) (o : Obj) (pm cd doc dV kV : Value), s₁.heap.get? a = some o →
    o.data = .func { docDef d.name d.params d.body d.scope pm cd doc with defaults := dV, kwdefaults := kV } → s₁.heap.CodeRec cd d.name → Dflts mg s₁.heap d.params kwd dV kV → mg d.name = some (.ref a) → s₁.gens = #[] → (importedModules r.prog.main.body = [] → ∃ mc, s₁.heap.Ns cStatics mc ∧ mc "_thread.count" = none) →
    ∀ (args : List WData) (vals : List Value) (as : List Addr), r.claim.pre args = true → WData.layableAll args = true → ReadsAllW r.records (classAt s₀.heap) s₁.heap vals args as → WellAll w.params s₁.heap vals args → (∀ a ∈ as, (a == sysModules) = false) →
      GoodWG r.claim (classAt s₀.heap) (ExcName.means s₀.heap) args s₁ (.ok (.ret (.bool true))) s₁ ∧
      wpOk (model r.prog w) callerA (PySem.call (.ref a) vals) (fun v s' => GoodWG r.claim (classAt s₀.heap) (ExcName.means s₀.heap) args s₁ (.ok (.ret v)) s')
        (fun e s' => GoodWG r.claim (classAt s₀.heap) (ExcName.means s₀.heap) args s₁ (.error e) s') s₁

/-- the head's end over good contexts: by way of wpOk -/
theorem holds_openOk {r : OpenRow} {q : Program} {loose : List Str} {Xt : Shared → Bool} {XP : (Str → Option Value) → Heap → Prop} {α : Type} {Yf : Shared → α} {Ya : World → α} {YP : World → Heap → Prop} {d : DefRec} {kwd : List (Str × Expr)} {N : Nat}
    (left : LeftO r.prog q loose Xt Yf Ya N) (hY : ∀ w s, Yf s = Ya w → YP w s.heap) (hYk : ∀ w h h', YP w h → (∀ b o, h.get? b = some o → h'.get? b = some o) → YP w h')
    (hX : ∀ s, Xt s = true → XP (s.heap.nsMap mainGlobals) s.heap) (hXk : ∀ mg h h', XP mg h → (∀ b o, h.get? b = some o → h'.get? b = some o) → XP mg h')
    (hdef : defOf q r.name = some (d, kwd)) (hp : r.prog.theDef r.name = some (d.params, d.body, d.scope)) (hk : kwWritten? d.params.kwonlyargs d.params.kw_defaults = some kwd) (hRf : ∀ s, Xt s = true → RecFacts r.records s.heap) (hwr : (!r.writes || r.records.isEmpty) = true)
    (k1 : r.wellSaid = true) (ok : (chainsOk q && opensWell r.prog && (frees r.toRowW && r.within.isEmpty)) = true) (hb : r.prog.bare) (hw : r.toRowW.promised)
    (call : WalkOk q loose XP YP r.toRowW d kwd) : r.Holds := by
  refine ⟨k1, hw, ?_⟩
  obtain ⟨ok1, ok2⟩ := Bool.and_eq_true_iff.mp ok
  obtain ⟨hch, o1⟩ := Bool.and_eq_true_iff.mp ok1
  obtain ⟨k5, k6⟩ := Bool.and_eq_true_iff.mp ok2
  obtain ⟨hsame, hu, ha, hap, hm⟩ := frees_parts k5
  have B := fun w => left.behind (XP := fun mg h => XP mg h ∧ RecFacts r.records h) (fun s hs => ⟨hX s hs, hRf s hs⟩) hch w
  refine ⟨⟨hb, o1, by show r.makers.map _ = []; rw [hm]; rfl⟩, hw.witness, fun w => ⟨(B w).1, fun s' hs' => ?_⟩⟩
  obtain ⟨s₀, hf, hg0, s, hT, hz, hgens, hg, G00, y⟩ := (B w).2 s' hs'
  have G0 : Ground q loose [] XP w s (s.heap.nsMap mainGlobals) (s.heap.nsMap builtinsNs) s.heap := ⟨G00.T, G00.B, G00.D, G00.TE, G00.TD, G00.W, G00.X.1, G00.cls, G00.has, G00.apart, G00.once, G00.K⟩
  have RF := G00.X.2
  have pin : ∀ n ∈ (if r.pinned then [r.name] else []), isTheDefsW r.prog s.heap n := fun n hn => by
    obtain rfl : n = r.name := by split at hn <;> simp_all
    exact pinned_of_view hg G0 hdef hp hk
  refine ⟨s₀, hf, hg0, s, hT, pin, RF.1, RF.2.1, ?_⟩
  have hgens' : s.gens = #[] := Array.eq_empty_of_size_eq_zero (beq_iff_eq.mp hgens)
  have G : Ground q loose r.records XP w s _ _ s.heap := RF.ground G0
  refine callFrom_guarded (v := .done (.ret (.bool true))) hz (ClaimW.callFrom_of_specG (c := r.claim) hz hgens' fun args hpre hlay ord hord => ?_)
  obtain ⟨⟨vs, s₁⟩, hlaid⟩ := Option.isSome_iff_exists.mp (layAllW_isSome (P := w.params) (ord := ord) G.has args r.args s (pre_splitW hpre).1)
  have keeps := layAllW_keeps _ _ _ hlaid
  have hal := layAllW_rest _ _ _ hlaid
  obtain ⟨as, hrd, hin, hold⟩ := reads_layAllW hord _ _ _ hlaid hlay s₁.heap (fun _ _ e => e)
  have L : Laid r.records w s s₁ args vs as := ⟨⟨ord, hord, hlaid⟩, hrd, hin, hold, keeps, hal.1.trans hgens', hal.2.2.1⟩
  have G₁ := G.keeps hXk keeps
  obtain ⟨a, o, pm, cd, doc, dV, kV, h1, h2, h3, h4, h5⟩ := G₁.fn hdef
  obtain ⟨hjunk, hcall⟩ := call w s s₁ _ _ G₁ (hYk _ _ _ (hY w s y) keeps) a o pm cd doc dV kV h2 h3 h4 h5 (defOf_name hdef ▸ h1) L.gens (fun hi => let ⟨mc, q1, q2⟩ := G0.T.nolimit; ⟨mc, q1.keeps keeps, noCount hT q1 hi⟩) args vs as hpre hlay L.reads L.well (L.low G.low)
  have hi := ident_freeW hu ha hap
  have hwi : r.claim.within = [] := List.isEmpty_iff.mp k6
  have fin : ∀ (res : Result) (s' : Shared), GoodWG r.claim (classAt s.heap) (ExcName.means s.heap) args s₁ res s' → (r.claim.Ends s args vs s₁ res s' ∧ s'.os = s.os ∧ AllBare s'.gens ∧
      (r.writes = true → namesKept r.prog r.keeps s.heap s'.heap ∧ ∀ x ∈ r.records, ∀ a, classAt s.heap x.1 = some a → recordClass s'.heap a x.1 (x.2.map (·.1)) = true)) := fun res s' g => by
    have z := g.laid (c := r.claim) hsame hwi hi L
    refine ⟨z.1, z.2.1, z.2.2, fun q => ⟨?_, ?_⟩⟩
    · exact namesKept_of hT hg r.keeps keeps g.2.1.old
    · exact noTable hwr q
  refine ⟨vs, s₁, hlaid, guarded_any ⟨_, rfl, fin _ _ hjunk⟩ ?_⟩
  intro Γ p hΓ hc hbl
  rw [Sem.wp_bind']
  refine (Sem.wp_nsGet (model r.prog w) Γ _ p s₁ G₁.T.g r.name _).mpr ?_
  rw [h1]
  show Sem.wp _ Γ (PySem.call (.ref a) vs >>= fun v => ret v) _ _ p s₁
  rw [Sem.wp_bind']
  exact Sem.wp_mono _ Γ _ (fun v _ s' g => ⟨_, rfl, fin _ _ g⟩) (fun e _ s' g => fin _ _ g) p s₁ (hcall Γ p hΓ hc hbl)
end Mine
end

-- TopA
section
open PySem PySem.W PyProof.Rows PySem.Calls
set_option Elab.async false
set_option maxRecDepth 100000
set_option maxHeartbeats 0
set_option linter.unusedVariables false
namespace Mine
/-- the top's run over a tree of objects -/
def topRunT (tb : String → Option Builtin) (p : Program) (w : World) (n₀ : Nat) (ann : Option Value) : Nat → SharedT → Thread → Option SharedT
  | 0, _, _ => none
  | n + 1, s, t => match through t with
    | true => some s
    | false => match stepOk n₀ ann t with
      | false => none
      | true => match stepT (denote tb) p w s t with
        | some (s', t') => topRunT tb p w n₀ ann n s' t'
        | none => none
theorem topRun_of {tb : String → Option Builtin} {p : Program} {w : World} {n₀ : Nat} {ann : Option Value} : ∀ {n : Nat} {s s' : SharedT} {t : Thread}, topRunT tb p w n₀ ann n s t = some s' → topRun tb p w n₀ ann n s.abs t = some s'.abs
  | 0, _, _, _, h => by cases h
  | n + 1, s, s', t, h => by
    unfold topRunT at h
    unfold topRun
    cases he : through t with
    | true => rw [he] at h; cases h; rfl
    | false =>
      rw [he] at h
      cases hk : stepOk n₀ ann t with
      | false => rw [hk] at h; cases h
      | true =>
        rw [hk] at h
        cases hs : stepT (denote tb) p w s t with
        | none => rw [hs] at h; cases h
        | some r => obtain ⟨s₂, t₂⟩ := r; rw [hs] at h; rw [stepT_spec hs]; exact topRun_of h
/-- a tree of a list of objects, each looked up behind its laying -/
def treeChk : List Obj → BT → Nat → Option BT
  | [], t, _ => some t
  | o :: l, t, n => match ((t.ins n o).get n).isSome with
    | true => treeChk l (t.ins n o) (n + 1)
    | false => none
theorem treeChk_abs {life : Life} : ∀ {l : List Obj} {t : BT} {n : Nat} {t' : BT}, treeChk l t n = some t' → absHeap t' (n + l.length) life = l.foldl Heap.push (absHeap t n life)
  | [], t, n, t', h => by cases h; rfl
  | o :: l, t, n, t', h => by
    unfold treeChk at h
    cases hg : ((t.ins n o).get n).isSome with
    | false => rw [hg] at h; cases h
    | true =>
      rw [hg] at h
      have := treeChk_abs (life := life) h
      rw [absHeap_ins hg] at this
      rw [List.foldl_cons, ← this, List.length_cons]
      congr 1
      omega
theorem foldl_push {life : Life} : ∀ (l : List Obj) (a : Array Obj), l.foldl Heap.push ⟨a, life⟩ = ⟨a ++ l.toArray, life⟩
  | [], a => by simp
  | o :: l, a => by
    rw [List.foldl_cons]
    show l.foldl Heap.push ⟨a.push o, life⟩ = _
    rw [foldl_push l]
    simp
noncomputable def st0 (w : World) (os : OsState) : SharedT := ⟨(treeChk (boot_heap w.params).objs.toList .nil 0).getD .nil, (boot_heap w.params).objs.size, (boot_heap w.params).life, #[], boot_drawn, boot_toks, os⟩
theorem boot_chk : ∀ w : World, (treeChk (boot_heap w.params).objs.toList .nil 0).isSome = true := fun w => by kernel_rfl
theorem st0_abs (w : World) (os : OsState) : (st0 w os).abs = ⟨boot_heap w.params, #[], boot_drawn, boot_toks, os⟩ := by
  obtain ⟨t, ht⟩ := Option.isSome_iff_exists.mp (boot_chk w)
  unfold st0 SharedT.abs
  dsimp only
  rw [ht]
  have h := treeChk_abs (life := (boot_heap w.params).life) ht
  rw [Nat.zero_add, Array.length_toList] at h
  show (⟨absHeap t (boot_heap w.params).objs.size (boot_heap w.params).life, #[], boot_drawn, boot_toks, os⟩ : Shared) = _
  have e := foldl_push (life := (boot_heap w.params).life) (boot_heap w.params).objs.toList #[]
  have e2 : List.foldl Heap.push (absHeap .nil 0 (boot_heap w.params).life) (boot_heap w.params).objs.toList = boot_heap w.params := e.trans (by simp)
  rw [h, e2]
/-- an object of the tree, where it lives -/
def SharedT_get (r : SharedT) (a : Addr) : Option Obj := match Nat.blt a r.n with
  | true => (r.tree.get a).bind alive
  | false => none
theorem SharedT_get_abs {r : SharedT} {a : Addr} {o : Obj} (h : SharedT_get r a = some o) : r.abs.heap.get? a = some o := by
  unfold SharedT_get at h
  rw [PySem.W.S.blt_dec] at h
  by_cases hl : a < r.n
  · rw [decide_eq_true hl] at h
    cases hg : r.tree.get a with
    | none => simp [hg] at h
    | some o' =>
      have h' : alive o' = some o := by simpa [hg] using h
      exact (abs_get hl hg).trans h'
  · rw [decide_eq_false hl] at h
    cases h
theorem map_some_of {α β : Type} {v g : α → Option β} (h : ∀ a o, v a = some o → g a = some o) : ∀ {as : List α} {ys : List β}, as.map v = ys.map some → as.map g = ys.map some
  | [], [], _ => rfl
  | [], _ :: _, e => by simp at e
  | _ :: _, [], e => by simp at e
  | a :: as, y :: ys, e => by
    simp only [List.map_cons, List.cons.injEq] at e ⊢
    exact ⟨h _ _ e.1, map_some_of h e.2⟩
/-- the head's word of the top, from a run over a tree -/
theorem LeftO_of_tree {p q : Program} {loose : List Str} {Xt : Shared → Bool} {α : Type} {Yf : Shared → α} {Ya : World → α} {N : Nat} {g0 : Bool} {H₀ : Params → Heap} {gs₀ : Array GenState} {d₀ : Drawn} {k₀ M : Nat} {S0 : World → OsState → SharedT}
    (open_ : ∀ w : World, (fencedOpening treeTable p w N).map (fun s => (s.heap, s.gens, s.drawn, s.toks)) = some (H₀ w.params, gs₀, d₀, k₀)) (ns : ∀ w : World, ((H₀ w.params).isNs mainGlobals && gs₀.size == 0) = true) (abs : ∀ w os, (S0 w os).abs = ⟨H₀ w.params, gs₀, d₀, k₀, os⟩) (le : Nat.ble M N = true)
    (run : ∀ w os, ∃ r : SharedT, topRunT treeTable p w (H₀ w.params).objs.size ((H₀ w.params).nsMap mainGlobals "__annotations__") M (S0 w os) (topStub p) = some r ∧
      (staticsOk (importedModules p.main.body) (H₀ w.params) r.abs.heap && namesBound p r.abs.heap && gensDone r.abs && laidKept (H₀ w.params) r.abs.heap) = true ∧ openSeen q loose (importedModules p.main.body) Xt g0 r.abs = openGood q loose ∧ Yf r.abs = Ya w) : LeftO p q loose Xt Yf Ya N g0 := fun w => by
  obtain ⟨⟨h, gs, d, k, os⟩, e, e'⟩ := Option.map_eq_some_iff.mp (open_ w)
  obtain ⟨rfl, rfl, rfl, rfl⟩ : h = H₀ w.params ∧ gs = gs₀ ∧ d = d₀ ∧ k = k₀ := by simpa using e'
  obtain ⟨r, hr, l1, l2, l3⟩ := run w os
  have t0 := topRun_of hr
  rw [abs] at t0
  have t1 := topRun_mono (N - M) _ _ _ _ t0
  rw [show M + (N - M) = N by have := Nat.le_of_ble_eq_true le; omega] at t1
  have t : topFrom treeTable p w N ⟨H₀ w.params, gs, d, k, os⟩ = some r.abs := by
    unfold topFrom
    dsimp only
    rw [ns w, t1]
    show (match staticsOk (importedModules p.main.body) (H₀ w.params) r.abs.heap && namesBound p r.abs.heap && gensDone r.abs && laidKept (H₀ w.params) r.abs.heap with | true => some r.abs | false => none) = some r.abs
    rw [l1]
  unfold openEnds
  rw [e]
  show (topFrom treeTable p w N _).map _ = _
  rw [t]
  exact congrArg some (Prod.ext l2 l3)
end Mine
end

-- TopK
section
open PySem PySem.W PyProof.Rows PySem.Calls
set_option Elab.async false
set_option maxRecDepth 100000
set_option maxHeartbeats 0
set_option linter.unusedVariables false
namespace Mine
/-- the statements of the text; a def's parts by its place -/
noncomputable def topS : List Stmt := PySem.Challenge.pw_aw6023_01.main.body
def nthS (l : List Stmt) (i : Nat) : Stmt := (l[i]?).getD default
def inCls : Stmt → List Stmt
  | .ClassDef _ _ _ b _ _ _ _ _ _ _ => b
  | _ => []
def fdOf : Stmt → Arguments × List Stmt × Scope
  | .FunctionDef _ a b _ _ _ s _ _ _ => (a, b, s)
  | _ => default
noncomputable def fdT (i : Nat) : Arguments × List Stmt × Scope := fdOf (nthS topS i)
noncomputable def fdM (i j : Nat) : Arguments × List Stmt × Scope := fdOf (nthS (inCls (nthS topS i)) j)
/-- what the top leaves behind, as far as the law reaches it -/
noncomputable def kl (P : Params) : List (Addr × Obj) := [
  (2, { cls := Value.none, data := Data.dict #[{ hash := PyData.keyHash P (Str.ofString "type.__subclasses__.Exception.0"), key := Value.str (Str.ofString "type.__subclasses__.Exception.0") 212, val := Value.int 31 0 }, { hash := PyData.keyHash P (Str.ofString "type.__subclasses__.Exception.n"), key := Value.str (Str.ofString "type.__subclasses__.Exception.n") 213, val := Value.int 1 0 }] 2 }),
  (3, { cls := Value.type "dict", data := Data.dict #[{ hash := PyData.keyHash P (Str.ofString "__name__"), key := Value.str (Str.ofString "__name__") 165, val := Value.str (Str.ofString "law_aw6023_01") 1404 }, { hash := PyData.keyHash P (Str.ofString "__doc__"), key := Value.str (Str.ofString "__doc__") 166, val := Value.none }, { hash := PyData.keyHash P (Str.ofString "__package__"), key := Value.str (Str.ofString "__package__") 167, val := Value.none }, { hash := PyData.keyHash P (Str.ofString "__loader__"), key := Value.str (Str.ofString "__loader__") 168, val := Value.builtin "__main__.__loader__#opaque" }, { hash := PyData.keyHash P (Str.ofString "__spec__"), key := Value.str (Str.ofString "__spec__") 169, val := Value.none }, { hash := PyData.keyHash P (Str.ofString "__annotations__"), key := Value.str (Str.ofString "__annotations__") 170, val := Value.ref 6 }, { hash := PyData.keyHash P (Str.ofString "__builtins__"), key := Value.str (Str.ofString "__builtins__") 171, val := Value.ref 4 }, { hash := PyData.keyHash P (Str.ofString "__file__"), key := Value.str (Str.ofString "__file__") 173, val := Value.str (Str.ofString "/claim/cut.py") 172 }, { hash := PyData.keyHash P (Str.ofString "__cached__"), key := Value.str (Str.ofString "__cached__") 174, val := Value.none }, { hash := PyData.keyHash P (Str.ofString "_wall"), key := Value.str (Str.ofString "_wall") 193, val := Value.ref 21 }, { hash := PyData.keyHash P (Str.ofString "NetworkXException"), key := Value.str (Str.ofString "NetworkXException") 215, val := Value.ref 31 }, { hash := PyData.keyHash P (Str.ofString "NetworkXError"), key := Value.str (Str.ofString "NetworkXError") 231, val := Value.ref 44 }, { hash := PyData.keyHash P (Str.ofString "NodeNotFound"), key := Value.str (Str.ofString "NodeNotFound") 247, val := Value.ref 56 }, { hash := PyData.keyHash P (Str.ofString "predecessor"), key := Value.str (Str.ofString "predecessor") 267, val := Value.ref 66 }, { hash := PyData.keyHash P (Str.ofString "AtlasView"), key := Value.str (Str.ofString "AtlasView") 336, val := Value.ref 120 }, { hash := PyData.keyHash P (Str.ofString "AdjacencyView"), key := Value.str (Str.ofString "AdjacencyView") 361, val := Value.ref 142 }, { hash := PyData.keyHash P (Str.ofString "_nbunch_iter"), key := Value.str (Str.ofString "_nbunch_iter") 373, val := Value.ref 152 }, { hash := PyData.keyHash P (Str.ofString "NodeView"), key := Value.str (Str.ofString "NodeView") 441, val := Value.ref 207 }, { hash := PyData.keyHash P (Str.ofString "OutEdgeDataView"), key := Value.str (Str.ofString "OutEdgeDataView") 519, val := Value.ref 250 }, { hash := PyData.keyHash P (Str.ofString "EdgeDataView"), key := Value.str (Str.ofString "EdgeDataView") 566, val := Value.ref 292 }, { hash := PyData.keyHash P (Str.ofString "OutEdgeView"), key := Value.str (Str.ofString "OutEdgeView") 641, val := Value.ref 343 }, { hash := PyData.keyHash P (Str.ofString "EdgeView"), key := Value.str (Str.ofString "EdgeView") 688, val := Value.ref 381 }, { hash := PyData.keyHash P (Str.ofString "_NOT_FOUND"), key := Value.str (Str.ofString "_NOT_FOUND") 691, val := Value.ref 384 }, { hash := PyData.keyHash P (Str.ofString "cached_property"), key := Value.str (Str.ofString "cached_property") 754, val := Value.ref 423 }, { hash := PyData.keyHash P (Str.ofString "Graph"), key := Value.str (Str.ofString "Graph") 1076, val := Value.ref 638 }, { hash := PyData.keyHash P (Str.ofString "DiGraph"), key := Value.str (Str.ofString "DiGraph") 1403, val := Value.ref 814 }, { hash := PyData.keyHash P (Str.ofString "_law_numbers"), key := Value.str (Str.ofString "_law_numbers") 1411, val := Value.ref 829 }, { hash := PyData.keyHash P (Str.ofString "_law_table"), key := Value.str (Str.ofString "_law_table") 1417, val := Value.ref 834 }, { hash := PyData.keyHash P (Str.ofString "law"), key := Value.str (Str.ofString "law") 1423, val := Value.ref 839 }] 29 }),
  (15, { cls := Value.type "tuple", data := Data.seq #[] }),
  (17, { cls := Value.type "tuple", data := Data.seq #[Value.str (Str.ofString "k") 190] }),
  (18, { cls := Value.type "tuple", data := Data.seq #[] }),
  (20, { cls := Value.type "code", data := Data.fields #[Value.str (Str.ofString "_wall") 187, Value.str (Str.ofString "_wall") 188, Value.str (Str.ofString "/claim/cut.py") 189, Value.int 1 0, Value.int 1 0, Value.int 0 0, Value.int 0 0, Value.int 3 0, Value.ref 15, Value.bool true, Value.int 181 0, Value.ref 16, Value.none, Value.ref 17, Value.ref 18, Value.ref 19, Value.int 191 0, Value.int 1 0, Value.str (Str.ofString "/claim/cut.py") 192] }),
  (21, { cls := Value.type "function", data := Data.func { name := Str.ofString "_wall", qualname := Str.ofString "_wall", params := (fdT 0).1, body := .stmts (fdT 0).2.1, scope := (fdT 0).2.2, globals := 3, closure := [], defaults := Value.none, kwdefaults := Value.none, pyModule := Value.str (Str.ofString "__main__") 164, code := Value.ref 20 } }),
  (22, { cls := Value.type "tuple", data := Data.seq #[Value.type "Exception"] }),
  (29, { cls := Value.type "tuple", data := Data.seq #[] }),
  (30, { cls := Value.type "dict", data := Data.dict #[{ hash := PyData.keyHash P (Str.ofString "__module__"), key := Value.str (Str.ofString "__module__") 203, val := Value.str (Str.ofString "networkx.exception") 194 }, { hash := PyData.keyHash P (Str.ofString "__firstlineno__"), key := Value.str (Str.ofString "__firstlineno__") 207, val := Value.int 5 206 }, { hash := PyData.keyHash P (Str.ofString "__static_attributes__"), key := Value.str (Str.ofString "__static_attributes__") 208, val := Value.ref 29 }, { hash := PyData.keyHash P (Str.ofString "__weakref__"), key := Value.str (Str.ofString "__weakref__") 210, val := Value.ref 32 }, { hash := PyData.keyHash P (Str.ofString "__doc__"), key := Value.str (Str.ofString "__doc__") 211, val := Value.none }] 3 }),
  (31, { cls := Value.type "type", data := Data.cls { name := Str.ofString "NetworkXException", bases := [Value.type "Exception"], mro := [Value.ref 31, Value.type "Exception", Value.type "BaseException", Value.type "object"], ns := 30, qualname := Str.ofString "NetworkXException", subclasses := [Value.ref 44, Value.ref 56] }, slots := #[some (Value.ref 22), none, some (Value.str (Str.ofString "NetworkXException") 196), some (Value.str (Str.ofString "NetworkXException") 204), some (Value.builtin "Exception.__new__"), some (Value.bool true)] }),
  (32, { cls := Value.type "getset_descriptor", data := Data.fields #[Value.str (Str.ofString "__weakref__") 209, Value.ref 31, Value.builtin "ExceptionGroup.__weakref__", Value.none] }),
  (35, { cls := Value.type "tuple", data := Data.seq #[Value.ref 31] }),
  (42, { cls := Value.type "tuple", data := Data.seq #[] }),
  (43, { cls := Value.type "dict", data := Data.dict #[{ hash := PyData.keyHash P (Str.ofString "__module__"), key := Value.str (Str.ofString "__module__") 223, val := Value.str (Str.ofString "networkx.exception") 194 }, { hash := PyData.keyHash P (Str.ofString "__firstlineno__"), key := Value.str (Str.ofString "__firstlineno__") 227, val := Value.int 7 226 }, { hash := PyData.keyHash P (Str.ofString "__static_attributes__"), key := Value.str (Str.ofString "__static_attributes__") 228, val := Value.ref 42 }, { hash := PyData.keyHash P (Str.ofString "__doc__"), key := Value.str (Str.ofString "__doc__") 229, val := Value.none }] 2 }),
  (44, { cls := Value.type "type", data := Data.cls { name := Str.ofString "NetworkXError", bases := [Value.ref 31], mro := [Value.ref 44, Value.ref 31, Value.type "Exception", Value.type "BaseException", Value.type "object"], ns := 43, qualname := Str.ofString "NetworkXError" }, slots := #[some (Value.ref 35), none, some (Value.str (Str.ofString "NetworkXError") 216), some (Value.str (Str.ofString "NetworkXError") 224), some (Value.builtin "Exception.__new__"), some (Value.bool true)] }),
  (47, { cls := Value.type "tuple", data := Data.seq #[Value.ref 31] }),
  (54, { cls := Value.type "tuple", data := Data.seq #[] }),
  (55, { cls := Value.type "dict", data := Data.dict #[{ hash := PyData.keyHash P (Str.ofString "__module__"), key := Value.str (Str.ofString "__module__") 239, val := Value.str (Str.ofString "networkx.exception") 194 }, { hash := PyData.keyHash P (Str.ofString "__firstlineno__"), key := Value.str (Str.ofString "__firstlineno__") 243, val := Value.int 9 242 }, { hash := PyData.keyHash P (Str.ofString "__static_attributes__"), key := Value.str (Str.ofString "__static_attributes__") 244, val := Value.ref 54 }, { hash := PyData.keyHash P (Str.ofString "__doc__"), key := Value.str (Str.ofString "__doc__") 245, val := Value.none }] 2 }),
  (56, { cls := Value.type "type", data := Data.cls { name := Str.ofString "NodeNotFound", bases := [Value.ref 31], mro := [Value.ref 56, Value.ref 31, Value.type "Exception", Value.type "BaseException", Value.type "object"], ns := 55, qualname := Str.ofString "NodeNotFound" }, slots := #[some (Value.ref 47), none, some (Value.str (Str.ofString "NodeNotFound") 232), some (Value.str (Str.ofString "NodeNotFound") 240), some (Value.builtin "Exception.__new__"), some (Value.bool true)] }),
  (59, { cls := Value.type "tuple", data := Data.seq #[Value.none, Value.none, Value.none] }),
  (60, { cls := Value.type "tuple", data := Data.seq #[] }),
  (62, { cls := Value.type "tuple", data := Data.seq #[Value.str (Str.ofString "G") 253, Value.str (Str.ofString "source") 254, Value.str (Str.ofString "target") 255, Value.str (Str.ofString "cutoff") 256, Value.str (Str.ofString "return_seen") 257, Value.str (Str.ofString "level") 258, Value.str (Str.ofString "nextlevel") 259, Value.str (Str.ofString "seen") 260, Value.str (Str.ofString "pred") 261, Value.str (Str.ofString "thislevel") 262, Value.str (Str.ofString "v") 263, Value.str (Str.ofString "w") 264] }),
  (63, { cls := Value.type "tuple", data := Data.seq #[] }),
  (65, { cls := Value.type "code", data := Data.fields #[Value.str (Str.ofString "predecessor") 250, Value.str (Str.ofString "predecessor") 251, Value.str (Str.ofString "/claim/cut.py") 252, Value.int 12 0, Value.int 5 0, Value.int 0 0, Value.int 0 0, Value.int 3 0, Value.ref 60, Value.bool true, Value.int 181 0, Value.ref 61, Value.none, Value.ref 62, Value.ref 63, Value.ref 64, Value.int 265 0, Value.int 12 0, Value.str (Str.ofString "/claim/cut.py") 266] }),
  (66, { cls := Value.type "function", data := Data.func { name := Str.ofString "predecessor", qualname := Str.ofString "predecessor", params := (fdT 6).1, body := .stmts (fdT 6).2.1, scope := (fdT 6).2.2, globals := 3, closure := [], defaults := Value.ref 59, kwdefaults := Value.none, pyModule := Value.str (Str.ofString "networkx.algorithms.shortest_paths.unweighted") 248, code := Value.ref 65 } }),
  (74, { cls := Value.type "tuple", data := Data.seq #[Value.str (Str.ofString "_atlas") 282] }),
  (75, { cls := Value.type "tuple", data := Data.seq #[] }),
  (77, { cls := Value.type "tuple", data := Data.seq #[Value.str (Str.ofString "self") 287, Value.str (Str.ofString "d") 288] }),
  (78, { cls := Value.type "tuple", data := Data.seq #[] }),
  (80, { cls := Value.type "code", data := Data.fields #[Value.str (Str.ofString "__init__") 284, Value.str (Str.ofString "AtlasView.__init__") 285, Value.str (Str.ofString "/claim/cut.py") 286, Value.int 50 0, Value.int 2 0, Value.int 0 0, Value.int 0 0, Value.int 3 0, Value.ref 75, Value.bool true, Value.int 181 0, Value.ref 76, Value.none, Value.ref 77, Value.ref 78, Value.ref 79, Value.int 289 0, Value.int 50 0, Value.str (Str.ofString "/claim/cut.py") 290] }),
  (81, { cls := Value.type "function", data := Data.func { name := Str.ofString "__init__", qualname := Str.ofString "AtlasView.__init__", params := (fdM 8 1).1, body := .stmts (fdM 8 1).2.1, scope := (fdM 8 1).2.2, globals := 3, closure := [], defaults := Value.none, kwdefaults := Value.none, pyModule := Value.str (Str.ofString "networkx.classes.coreviews") 268, code := Value.ref 80 } }),
  (82, { cls := Value.type "tuple", data := Data.seq #[] }),
  (84, { cls := Value.type "tuple", data := Data.seq #[Value.str (Str.ofString "self") 295] }),
  (85, { cls := Value.type "tuple", data := Data.seq #[] }),
  (87, { cls := Value.type "code", data := Data.fields #[Value.str (Str.ofString "__len__") 292, Value.str (Str.ofString "AtlasView.__len__") 293, Value.str (Str.ofString "/claim/cut.py") 294, Value.int 53 0, Value.int 1 0, Value.int 0 0, Value.int 0 0, Value.int 3 0, Value.ref 82, Value.bool true, Value.int 181 0, Value.ref 83, Value.none, Value.ref 84, Value.ref 85, Value.ref 86, Value.int 296 0, Value.int 53 0, Value.str (Str.ofString "/claim/cut.py") 297] }),
  (88, { cls := Value.type "function", data := Data.func { name := Str.ofString "__len__", qualname := Str.ofString "AtlasView.__len__", params := (fdM 8 2).1, body := .stmts (fdM 8 2).2.1, scope := (fdM 8 2).2.2, globals := 3, closure := [], defaults := Value.none, kwdefaults := Value.none, pyModule := Value.str (Str.ofString "networkx.classes.coreviews") 268, code := Value.ref 87 } }),
  (89, { cls := Value.type "tuple", data := Data.seq #[] }),
  (91, { cls := Value.type "tuple", data := Data.seq #[Value.str (Str.ofString "self") 302] }),
  (92, { cls := Value.type "tuple", data := Data.seq #[] }),
  (94, { cls := Value.type "code", data := Data.fields #[Value.str (Str.ofString "__iter__") 299, Value.str (Str.ofString "AtlasView.__iter__") 300, Value.str (Str.ofString "/claim/cut.py") 301, Value.int 56 0, Value.int 1 0, Value.int 0 0, Value.int 0 0, Value.int 3 0, Value.ref 89, Value.bool true, Value.int 181 0, Value.ref 90, Value.none, Value.ref 91, Value.ref 92, Value.ref 93, Value.int 303 0, Value.int 56 0, Value.str (Str.ofString "/claim/cut.py") 304] }),
  (95, { cls := Value.type "function", data := Data.func { name := Str.ofString "__iter__", qualname := Str.ofString "AtlasView.__iter__", params := (fdM 8 3).1, body := .stmts (fdM 8 3).2.1, scope := (fdM 8 3).2.2, globals := 3, closure := [], defaults := Value.none, kwdefaults := Value.none, pyModule := Value.str (Str.ofString "networkx.classes.coreviews") 268, code := Value.ref 94 } }),
  (96, { cls := Value.type "tuple", data := Data.seq #[] }),
  (98, { cls := Value.type "tuple", data := Data.seq #[Value.str (Str.ofString "self") 309, Value.str (Str.ofString "key") 310] }),
  (99, { cls := Value.type "tuple", data := Data.seq #[] }),
  (101, { cls := Value.type "code", data := Data.fields #[Value.str (Str.ofString "__getitem__") 306, Value.str (Str.ofString "AtlasView.__getitem__") 307, Value.str (Str.ofString "/claim/cut.py") 308, Value.int 59 0, Value.int 2 0, Value.int 0 0, Value.int 0 0, Value.int 3 0, Value.ref 96, Value.bool true, Value.int 181 0, Value.ref 97, Value.none, Value.ref 98, Value.ref 99, Value.ref 100, Value.int 311 0, Value.int 59 0, Value.str (Str.ofString "/claim/cut.py") 312] }),
  (102, { cls := Value.type "function", data := Data.func { name := Str.ofString "__getitem__", qualname := Str.ofString "AtlasView.__getitem__", params := (fdM 8 4).1, body := .stmts (fdM 8 4).2.1, scope := (fdM 8 4).2.2, globals := 3, closure := [], defaults := Value.none, kwdefaults := Value.none, pyModule := Value.str (Str.ofString "networkx.classes.coreviews") 268, code := Value.ref 101 } }),
  (103, { cls := Value.type "tuple", data := Data.seq #[] }),
  (105, { cls := Value.type "tuple", data := Data.seq #[Value.str (Str.ofString "self") 317, Value.str (Str.ofString "key") 318] }),
  (106, { cls := Value.type "tuple", data := Data.seq #[] }),
  (108, { cls := Value.type "code", data := Data.fields #[Value.str (Str.ofString "__contains__") 314, Value.str (Str.ofString "AtlasView.__contains__") 315, Value.str (Str.ofString "/claim/cut.py") 316, Value.int 62 0, Value.int 2 0, Value.int 0 0, Value.int 0 0, Value.int 3 0, Value.ref 103, Value.bool true, Value.int 181 0, Value.ref 104, Value.none, Value.ref 105, Value.ref 106, Value.ref 107, Value.int 319 0, Value.int 62 0, Value.str (Str.ofString "/claim/cut.py") 320] }),
  (109, { cls := Value.type "function", data := Data.func { name := Str.ofString "__contains__", qualname := Str.ofString "AtlasView.__contains__", params := (fdM 8 5).1, body := .stmts (fdM 8 5).2.1, scope := (fdM 8 5).2.2, globals := 3, closure := [], defaults := Value.none, kwdefaults := Value.none, pyModule := Value.str (Str.ofString "networkx.classes.coreviews") 268, code := Value.ref 108 } }),
  (110, { cls := Value.type "tuple", data := Data.seq #[] }),
  (112, { cls := Value.type "tuple", data := Data.seq #[Value.str (Str.ofString "self") 325] }),
  (113, { cls := Value.type "tuple", data := Data.seq #[Value.str (Str.ofString "self") 326] }),
  (115, { cls := Value.type "code", data := Data.fields #[Value.str (Str.ofString "items") 322, Value.str (Str.ofString "AtlasView.items") 323, Value.str (Str.ofString "/claim/cut.py") 324, Value.int 65 0, Value.int 1 0, Value.int 0 0, Value.int 0 0, Value.int 3 0, Value.ref 110, Value.bool true, Value.int 181 0, Value.ref 111, Value.none, Value.ref 112, Value.ref 113, Value.ref 114, Value.int 327 0, Value.int 65 0, Value.str (Str.ofString "/claim/cut.py") 328] }),
  (116, { cls := Value.type "function", data := Data.func { name := Str.ofString "items", qualname := Str.ofString "AtlasView.items", params := (fdM 8 6).1, body := .stmts (fdM 8 6).2.1, scope := (fdM 8 6).2.2, globals := 3, closure := [], defaults := Value.none, kwdefaults := Value.none, pyModule := Value.str (Str.ofString "networkx.classes.coreviews") 268, code := Value.ref 115 } }),
  (117, { cls := Value.type "tuple", data := Data.seq #[Value.str (Str.ofString "_atlas") 330] }),
  (119, { cls := Value.type "dict", data := Data.dict #[{ hash := PyData.keyHash P (Str.ofString "__module__"), key := Value.str (Str.ofString "__module__") 277, val := Value.str (Str.ofString "networkx.classes.coreviews") 268 }, { hash := PyData.keyHash P (Str.ofString "__firstlineno__"), key := Value.str (Str.ofString "__firstlineno__") 281, val := Value.int 47 280 }, { hash := PyData.keyHash P (Str.ofString "__slots__"), key := Value.str (Str.ofString "__slots__") 283, val := Value.ref 74 }, { hash := PyData.keyHash P (Str.ofString "__init__"), key := Value.str (Str.ofString "__init__") 291, val := Value.ref 81 }, { hash := PyData.keyHash P (Str.ofString "__len__"), key := Value.str (Str.ofString "__len__") 298, val := Value.ref 88 }, { hash := PyData.keyHash P (Str.ofString "__iter__"), key := Value.str (Str.ofString "__iter__") 305, val := Value.ref 95 }, { hash := PyData.keyHash P (Str.ofString "__getitem__"), key := Value.str (Str.ofString "__getitem__") 313, val := Value.ref 102 }, { hash := PyData.keyHash P (Str.ofString "__contains__"), key := Value.str (Str.ofString "__contains__") 321, val := Value.ref 109 }, { hash := PyData.keyHash P (Str.ofString "items"), key := Value.str (Str.ofString "items") 329, val := Value.ref 116 }, { hash := PyData.keyHash P (Str.ofString "__static_attributes__"), key := Value.str (Str.ofString "__static_attributes__") 331, val := Value.ref 117 }, { hash := PyData.keyHash P (Str.ofString "_atlas"), key := Value.str (Str.ofString "_atlas") 333, val := Value.ref 121 }, { hash := PyData.keyHash P (Str.ofString "__doc__"), key := Value.str (Str.ofString "__doc__") 334, val := Value.none }] 3 }),
  (120, { cls := Value.type "type", data := Data.cls { name := Str.ofString "AtlasView", bases := [Value.type "object"], mro := [Value.ref 120, Value.type "object"], ns := 119, qualname := Str.ofString "AtlasView", hasDict := false, slotNames := [Str.ofString "_atlas"], subclasses := [Value.ref 142] }, slots := #[none, none, some (Value.str (Str.ofString "AtlasView") 270), some (Value.str (Str.ofString "AtlasView") 278), some (Value.builtin "object.__new__"), some (Value.bool false)] }),
  (121, { cls := Value.type "member_descriptor", data := Data.fields #[Value.str (Str.ofString "_atlas") 332, Value.ref 120, Value.builtin "proto.slot", Value.builtin "proto.slot#set", Value.int 0 0] }),
  (124, { cls := Value.type "tuple", data := Data.seq #[Value.ref 120] }),
  (131, { cls := Value.type "tuple", data := Data.seq #[] }),
  (132, { cls := Value.type "tuple", data := Data.seq #[] }),
  (134, { cls := Value.type "tuple", data := Data.seq #[Value.str (Str.ofString "self") 353, Value.str (Str.ofString "name") 354] }),
  (135, { cls := Value.type "tuple", data := Data.seq #[] }),
  (137, { cls := Value.type "code", data := Data.fields #[Value.str (Str.ofString "__getitem__") 350, Value.str (Str.ofString "AdjacencyView.__getitem__") 351, Value.str (Str.ofString "/claim/cut.py") 352, Value.int 70 0, Value.int 2 0, Value.int 0 0, Value.int 0 0, Value.int 3 0, Value.ref 132, Value.bool true, Value.int 181 0, Value.ref 133, Value.none, Value.ref 134, Value.ref 135, Value.ref 136, Value.int 355 0, Value.int 70 0, Value.str (Str.ofString "/claim/cut.py") 356] }),
  (138, { cls := Value.type "function", data := Data.func { name := Str.ofString "__getitem__", qualname := Str.ofString "AdjacencyView.__getitem__", params := (fdM 9 1).1, body := .stmts (fdM 9 1).2.1, scope := (fdM 9 1).2.2, globals := 3, closure := [], defaults := Value.none, kwdefaults := Value.none, pyModule := Value.str (Str.ofString "networkx.classes.coreviews") 268, code := Value.ref 137 } }),
  (139, { cls := Value.type "tuple", data := Data.seq #[] }),
  (141, { cls := Value.type "dict", data := Data.dict #[{ hash := PyData.keyHash P (Str.ofString "__module__"), key := Value.str (Str.ofString "__module__") 344, val := Value.str (Str.ofString "networkx.classes.coreviews") 268 }, { hash := PyData.keyHash P (Str.ofString "__firstlineno__"), key := Value.str (Str.ofString "__firstlineno__") 348, val := Value.int 67 347 }, { hash := PyData.keyHash P (Str.ofString "__slots__"), key := Value.str (Str.ofString "__slots__") 349, val := Value.ref 131 }, { hash := PyData.keyHash P (Str.ofString "__getitem__"), key := Value.str (Str.ofString "__getitem__") 357, val := Value.ref 138 }, { hash := PyData.keyHash P (Str.ofString "__static_attributes__"), key := Value.str (Str.ofString "__static_attributes__") 358, val := Value.ref 139 }, { hash := PyData.keyHash P (Str.ofString "__doc__"), key := Value.str (Str.ofString "__doc__") 359, val := Value.none }] 2 }),
  (142, { cls := Value.type "type", data := Data.cls { name := Str.ofString "AdjacencyView", bases := [Value.ref 120], mro := [Value.ref 142, Value.ref 120, Value.type "object"], ns := 141, qualname := Str.ofString "AdjacencyView", hasDict := false, slotNames := [Str.ofString "_atlas"] }, slots := #[some (Value.ref 124), none, some (Value.str (Str.ofString "AdjacencyView") 337), some (Value.str (Str.ofString "AdjacencyView") 345), some (Value.builtin "object.__new__"), some (Value.bool false)] }),
  (145, { cls := Value.type "tuple", data := Data.seq #[Value.none] }),
  (146, { cls := Value.type "tuple", data := Data.seq #[] }),
  (148, { cls := Value.type "tuple", data := Data.seq #[Value.str (Str.ofString "adj") 367, Value.str (Str.ofString "nbunch") 368, Value.str (Str.ofString "single") 369, Value.str (Str.ofString "bunch_iter") 370] }),
  (149, { cls := Value.type "tuple", data := Data.seq #[] }),
  (151, { cls := Value.type "code", data := Data.fields #[Value.str (Str.ofString "_nbunch_iter") 364, Value.str (Str.ofString "_nbunch_iter") 365, Value.str (Str.ofString "/claim/cut.py") 366, Value.int 73 0, Value.int 2 0, Value.int 0 0, Value.int 0 0, Value.int 3 0, Value.ref 146, Value.bool true, Value.int 181 0, Value.ref 147, Value.none, Value.ref 148, Value.ref 149, Value.ref 150, Value.int 371 0, Value.int 73 0, Value.str (Str.ofString "/claim/cut.py") 372] }),
  (152, { cls := Value.type "function", data := Data.func { name := Str.ofString "_nbunch_iter", qualname := Str.ofString "_nbunch_iter", params := (fdT 11).1, body := .stmts (fdT 11).2.1, scope := (fdT 11).2.2, globals := 3, closure := [], defaults := Value.ref 145, kwdefaults := Value.none, pyModule := Value.str (Str.ofString "networkx.classes.reportviews") 362, code := Value.ref 151 } }),
  (160, { cls := Value.type "tuple", data := Data.seq #[Value.str (Str.ofString "_nodes") 386] }),
  (161, { cls := Value.type "tuple", data := Data.seq #[] }),
  (163, { cls := Value.type "tuple", data := Data.seq #[Value.str (Str.ofString "self") 391, Value.str (Str.ofString "graph") 392] }),
  (164, { cls := Value.type "tuple", data := Data.seq #[] }),
  (166, { cls := Value.type "code", data := Data.fields #[Value.str (Str.ofString "__init__") 388, Value.str (Str.ofString "NodeView.__init__") 389, Value.str (Str.ofString "/claim/cut.py") 390, Value.int 91 0, Value.int 2 0, Value.int 0 0, Value.int 0 0, Value.int 3 0, Value.ref 161, Value.bool true, Value.int 181 0, Value.ref 162, Value.none, Value.ref 163, Value.ref 164, Value.ref 165, Value.int 393 0, Value.int 91 0, Value.str (Str.ofString "/claim/cut.py") 394] }),
  (167, { cls := Value.type "function", data := Data.func { name := Str.ofString "__init__", qualname := Str.ofString "NodeView.__init__", params := (fdM 12 1).1, body := .stmts (fdM 12 1).2.1, scope := (fdM 12 1).2.2, globals := 3, closure := [], defaults := Value.none, kwdefaults := Value.none, pyModule := Value.str (Str.ofString "networkx.classes.reportviews") 362, code := Value.ref 166 } }),
  (168, { cls := Value.type "tuple", data := Data.seq #[] }),
  (170, { cls := Value.type "tuple", data := Data.seq #[Value.str (Str.ofString "self") 399] }),
  (171, { cls := Value.type "tuple", data := Data.seq #[] }),
  (173, { cls := Value.type "code", data := Data.fields #[Value.str (Str.ofString "__len__") 396, Value.str (Str.ofString "NodeView.__len__") 397, Value.str (Str.ofString "/claim/cut.py") 398, Value.int 94 0, Value.int 1 0, Value.int 0 0, Value.int 0 0, Value.int 3 0, Value.ref 168, Value.bool true, Value.int 181 0, Value.ref 169, Value.none, Value.ref 170, Value.ref 171, Value.ref 172, Value.int 400 0, Value.int 94 0, Value.str (Str.ofString "/claim/cut.py") 401] }),
  (174, { cls := Value.type "function", data := Data.func { name := Str.ofString "__len__", qualname := Str.ofString "NodeView.__len__", params := (fdM 12 2).1, body := .stmts (fdM 12 2).2.1, scope := (fdM 12 2).2.2, globals := 3, closure := [], defaults := Value.none, kwdefaults := Value.none, pyModule := Value.str (Str.ofString "networkx.classes.reportviews") 362, code := Value.ref 173 } }),
  (175, { cls := Value.type "tuple", data := Data.seq #[] }),
  (177, { cls := Value.type "tuple", data := Data.seq #[Value.str (Str.ofString "self") 406] }),
  (178, { cls := Value.type "tuple", data := Data.seq #[] }),
  (180, { cls := Value.type "code", data := Data.fields #[Value.str (Str.ofString "__iter__") 403, Value.str (Str.ofString "NodeView.__iter__") 404, Value.str (Str.ofString "/claim/cut.py") 405, Value.int 97 0, Value.int 1 0, Value.int 0 0, Value.int 0 0, Value.int 3 0, Value.ref 175, Value.bool true, Value.int 181 0, Value.ref 176, Value.none, Value.ref 177, Value.ref 178, Value.ref 179, Value.int 407 0, Value.int 97 0, Value.str (Str.ofString "/claim/cut.py") 408] }),
  (181, { cls := Value.type "function", data := Data.func { name := Str.ofString "__iter__", qualname := Str.ofString "NodeView.__iter__", params := (fdM 12 3).1, body := .stmts (fdM 12 3).2.1, scope := (fdM 12 3).2.2, globals := 3, closure := [], defaults := Value.none, kwdefaults := Value.none, pyModule := Value.str (Str.ofString "networkx.classes.reportviews") 362, code := Value.ref 180 } }),
  (182, { cls := Value.type "tuple", data := Data.seq #[] }),
  (184, { cls := Value.type "tuple", data := Data.seq #[Value.str (Str.ofString "self") 413, Value.str (Str.ofString "n") 414] }),
  (185, { cls := Value.type "tuple", data := Data.seq #[] }),
  (187, { cls := Value.type "code", data := Data.fields #[Value.str (Str.ofString "__getitem__") 410, Value.str (Str.ofString "NodeView.__getitem__") 411, Value.str (Str.ofString "/claim/cut.py") 412, Value.int 100 0, Value.int 2 0, Value.int 0 0, Value.int 0 0, Value.int 3 0, Value.ref 182, Value.bool true, Value.int 181 0, Value.ref 183, Value.none, Value.ref 184, Value.ref 185, Value.ref 186, Value.int 415 0, Value.int 100 0, Value.str (Str.ofString "/claim/cut.py") 416] }),
  (188, { cls := Value.type "function", data := Data.func { name := Str.ofString "__getitem__", qualname := Str.ofString "NodeView.__getitem__", params := (fdM 12 4).1, body := .stmts (fdM 12 4).2.1, scope := (fdM 12 4).2.2, globals := 3, closure := [], defaults := Value.none, kwdefaults := Value.none, pyModule := Value.str (Str.ofString "networkx.classes.reportviews") 362, code := Value.ref 187 } }),
  (189, { cls := Value.type "tuple", data := Data.seq #[] }),
  (191, { cls := Value.type "tuple", data := Data.seq #[Value.str (Str.ofString "self") 421, Value.str (Str.ofString "n") 422] }),
  (192, { cls := Value.type "tuple", data := Data.seq #[] }),
  (194, { cls := Value.type "code", data := Data.fields #[Value.str (Str.ofString "__contains__") 418, Value.str (Str.ofString "NodeView.__contains__") 419, Value.str (Str.ofString "/claim/cut.py") 420, Value.int 103 0, Value.int 2 0, Value.int 0 0, Value.int 0 0, Value.int 3 0, Value.ref 189, Value.bool true, Value.int 181 0, Value.ref 190, Value.none, Value.ref 191, Value.ref 192, Value.ref 193, Value.int 423 0, Value.int 103 0, Value.str (Str.ofString "/claim/cut.py") 424] }),
  (195, { cls := Value.type "function", data := Data.func { name := Str.ofString "__contains__", qualname := Str.ofString "NodeView.__contains__", params := (fdM 12 5).1, body := .stmts (fdM 12 5).2.1, scope := (fdM 12 5).2.2, globals := 3, closure := [], defaults := Value.none, kwdefaults := Value.none, pyModule := Value.str (Str.ofString "networkx.classes.reportviews") 362, code := Value.ref 194 } }),
  (196, { cls := Value.type "tuple", data := Data.seq #[Value.bool false, Value.none] }),
  (197, { cls := Value.type "tuple", data := Data.seq #[] }),
  (199, { cls := Value.type "tuple", data := Data.seq #[Value.str (Str.ofString "self") 429, Value.str (Str.ofString "data") 430, Value.str (Str.ofString "default") 431] }),
  (200, { cls := Value.type "tuple", data := Data.seq #[] }),
  (202, { cls := Value.type "code", data := Data.fields #[Value.str (Str.ofString "__call__") 426, Value.str (Str.ofString "NodeView.__call__") 427, Value.str (Str.ofString "/claim/cut.py") 428, Value.int 106 0, Value.int 3 0, Value.int 0 0, Value.int 0 0, Value.int 3 0, Value.ref 197, Value.bool true, Value.int 181 0, Value.ref 198, Value.none, Value.ref 199, Value.ref 200, Value.ref 201, Value.int 432 0, Value.int 106 0, Value.str (Str.ofString "/claim/cut.py") 433] }),
  (203, { cls := Value.type "function", data := Data.func { name := Str.ofString "__call__", qualname := Str.ofString "NodeView.__call__", params := (fdM 12 6).1, body := .stmts (fdM 12 6).2.1, scope := (fdM 12 6).2.2, globals := 3, closure := [], defaults := Value.ref 196, kwdefaults := Value.none, pyModule := Value.str (Str.ofString "networkx.classes.reportviews") 362, code := Value.ref 202 } }),
  (204, { cls := Value.type "tuple", data := Data.seq #[Value.str (Str.ofString "_nodes") 435] }),
  (206, { cls := Value.type "dict", data := Data.dict #[{ hash := PyData.keyHash P (Str.ofString "__module__"), key := Value.str (Str.ofString "__module__") 381, val := Value.str (Str.ofString "networkx.classes.reportviews") 362 }, { hash := PyData.keyHash P (Str.ofString "__firstlineno__"), key := Value.str (Str.ofString "__firstlineno__") 385, val := Value.int 88 384 }, { hash := PyData.keyHash P (Str.ofString "__slots__"), key := Value.str (Str.ofString "__slots__") 387, val := Value.ref 160 }, { hash := PyData.keyHash P (Str.ofString "__init__"), key := Value.str (Str.ofString "__init__") 395, val := Value.ref 167 }, { hash := PyData.keyHash P (Str.ofString "__len__"), key := Value.str (Str.ofString "__len__") 402, val := Value.ref 174 }, { hash := PyData.keyHash P (Str.ofString "__iter__"), key := Value.str (Str.ofString "__iter__") 409, val := Value.ref 181 }, { hash := PyData.keyHash P (Str.ofString "__getitem__"), key := Value.str (Str.ofString "__getitem__") 417, val := Value.ref 188 }, { hash := PyData.keyHash P (Str.ofString "__contains__"), key := Value.str (Str.ofString "__contains__") 425, val := Value.ref 195 }, { hash := PyData.keyHash P (Str.ofString "__call__"), key := Value.str (Str.ofString "__call__") 434, val := Value.ref 203 }, { hash := PyData.keyHash P (Str.ofString "__static_attributes__"), key := Value.str (Str.ofString "__static_attributes__") 436, val := Value.ref 204 }, { hash := PyData.keyHash P (Str.ofString "_nodes"), key := Value.str (Str.ofString "_nodes") 438, val := Value.ref 208 }, { hash := PyData.keyHash P (Str.ofString "__doc__"), key := Value.str (Str.ofString "__doc__") 439, val := Value.none }] 3 }),
  (207, { cls := Value.type "type", data := Data.cls { name := Str.ofString "NodeView", bases := [Value.type "object"], mro := [Value.ref 207, Value.type "object"], ns := 206, qualname := Str.ofString "NodeView", hasDict := false, slotNames := [Str.ofString "_nodes"] }, slots := #[none, none, some (Value.str (Str.ofString "NodeView") 374), some (Value.str (Str.ofString "NodeView") 382), some (Value.builtin "object.__new__"), some (Value.bool false)] }),
  (208, { cls := Value.type "member_descriptor", data := Data.fields #[Value.str (Str.ofString "_nodes") 437, Value.ref 207, Value.builtin "proto.slot", Value.builtin "proto.slot#set", Value.int 0 0] }),
  (218, { cls := Value.type "tuple", data := Data.seq #[Value.str (Str.ofString "_viewer") 454, Value.str (Str.ofString "_nbunch") 455, Value.str (Str.ofString "_data") 456, Value.str (Str.ofString "_default") 457, Value.str (Str.ofString "_adjdict") 458, Value.str (Str.ofString "_nodes_nbrs") 459, Value.str (Str.ofString "_report") 460] }),
  (219, { cls := Value.type "tuple", data := Data.seq #[Value.none, Value.bool false] }),
  (220, { cls := Value.type "dict", data := Data.dict #[{ hash := PyData.keyHash P (Str.ofString "default"), key := Value.str (Str.ofString "default") 462, val := Value.none }] 1 }),
  (221, { cls := Value.type "tuple", data := Data.seq #[] }),
  (224, { cls := Value.type "code", data := Data.fields #[Value.str (Str.ofString "__init__") 463, Value.str (Str.ofString "OutEdgeDataView.__init__") 464, Value.str (Str.ofString "/claim/cut.py") 465, Value.int 112 0, Value.int 4 0, Value.int 0 0, Value.int 1 0, Value.int 3 0, Value.ref 221, Value.bool true, Value.int 181 0, Value.ref 222, Value.none, Value.none, Value.none, Value.ref 223, Value.int 466 0, Value.int 112 0, Value.str (Str.ofString "/claim/cut.py") 467] }),
  (225, { cls := Value.type "function", data := Data.func { name := Str.ofString "__init__", qualname := Str.ofString "OutEdgeDataView.__init__", params := (fdM 13 1).1, body := .stmts (fdM 13 1).2.1, scope := (fdM 13 1).2.2, globals := 3, closure := [], defaults := Value.ref 219, kwdefaults := Value.ref 220, pyModule := Value.str (Str.ofString "networkx.classes.reportviews") 362, code := Value.ref 224 } }),
  (226, { cls := Value.type "tuple", data := Data.seq #[] }),
  (228, { cls := Value.type "tuple", data := Data.seq #[Value.str (Str.ofString "self") 472] }),
  (229, { cls := Value.type "tuple", data := Data.seq #[] }),
  (231, { cls := Value.type "code", data := Data.fields #[Value.str (Str.ofString "__len__") 469, Value.str (Str.ofString "OutEdgeDataView.__len__") 470, Value.str (Str.ofString "/claim/cut.py") 471, Value.int 130 0, Value.int 1 0, Value.int 0 0, Value.int 0 0, Value.int 3 0, Value.ref 226, Value.bool true, Value.int 181 0, Value.ref 227, Value.none, Value.ref 228, Value.ref 229, Value.ref 230, Value.int 473 0, Value.int 130 0, Value.str (Str.ofString "/claim/cut.py") 474] }),
  (232, { cls := Value.type "function", data := Data.func { name := Str.ofString "__len__", qualname := Str.ofString "OutEdgeDataView.__len__", params := (fdM 13 2).1, body := .stmts (fdM 13 2).2.1, scope := (fdM 13 2).2.2, globals := 3, closure := [], defaults := Value.none, kwdefaults := Value.none, pyModule := Value.str (Str.ofString "networkx.classes.reportviews") 362, code := Value.ref 231 } }),
  (233, { cls := Value.type "tuple", data := Data.seq #[] }),
  (235, { cls := Value.type "tuple", data := Data.seq #[Value.str (Str.ofString "self") 479] }),
  (236, { cls := Value.type "tuple", data := Data.seq #[Value.str (Str.ofString "self") 480] }),
  (238, { cls := Value.type "code", data := Data.fields #[Value.str (Str.ofString "__iter__") 476, Value.str (Str.ofString "OutEdgeDataView.__iter__") 477, Value.str (Str.ofString "/claim/cut.py") 478, Value.int 133 0, Value.int 1 0, Value.int 0 0, Value.int 0 0, Value.int 3 0, Value.ref 233, Value.bool true, Value.int 181 0, Value.ref 234, Value.none, Value.ref 235, Value.ref 236, Value.ref 237, Value.int 481 0, Value.int 133 0, Value.str (Str.ofString "/claim/cut.py") 482] }),
  (239, { cls := Value.type "function", data := Data.func { name := Str.ofString "__iter__", qualname := Str.ofString "OutEdgeDataView.__iter__", params := (fdM 13 3).1, body := .stmts (fdM 13 3).2.1, scope := (fdM 13 3).2.2, globals := 3, closure := [], defaults := Value.none, kwdefaults := Value.none, pyModule := Value.str (Str.ofString "networkx.classes.reportviews") 362, code := Value.ref 238 } }),
  (240, { cls := Value.type "tuple", data := Data.seq #[] }),
  (242, { cls := Value.type "tuple", data := Data.seq #[Value.str (Str.ofString "self") 487, Value.str (Str.ofString "e") 488, Value.str (Str.ofString "u") 489, Value.str (Str.ofString "v") 490, Value.str (Str.ofString "ddict") 491] }),
  (243, { cls := Value.type "tuple", data := Data.seq #[] }),
  (245, { cls := Value.type "code", data := Data.fields #[Value.str (Str.ofString "__contains__") 484, Value.str (Str.ofString "OutEdgeDataView.__contains__") 485, Value.str (Str.ofString "/claim/cut.py") 486, Value.int 136 0, Value.int 2 0, Value.int 0 0, Value.int 0 0, Value.int 3 0, Value.ref 240, Value.bool true, Value.int 181 0, Value.ref 241, Value.none, Value.ref 242, Value.ref 243, Value.ref 244, Value.int 492 0, Value.int 136 0, Value.str (Str.ofString "/claim/cut.py") 493] }),
  (246, { cls := Value.type "function", data := Data.func { name := Str.ofString "__contains__", qualname := Str.ofString "OutEdgeDataView.__contains__", params := (fdM 13 4).1, body := .stmts (fdM 13 4).2.1, scope := (fdM 13 4).2.2, globals := 3, closure := [], defaults := Value.none, kwdefaults := Value.none, pyModule := Value.str (Str.ofString "networkx.classes.reportviews") 362, code := Value.ref 245 } }),
  (247, { cls := Value.type "tuple", data := Data.seq #[Value.str (Str.ofString "_adjdict") 495, Value.str (Str.ofString "_data") 496, Value.str (Str.ofString "_default") 497, Value.str (Str.ofString "_nbunch") 498, Value.str (Str.ofString "_nodes_nbrs") 499, Value.str (Str.ofString "_report") 500, Value.str (Str.ofString "_viewer") 501] }),
  (249, { cls := Value.type "dict", data := Data.dict #[{ hash := PyData.keyHash P (Str.ofString "__module__"), key := Value.str (Str.ofString "__module__") 449, val := Value.str (Str.ofString "networkx.classes.reportviews") 362 }, { hash := PyData.keyHash P (Str.ofString "__firstlineno__"), key := Value.str (Str.ofString "__firstlineno__") 453, val := Value.int 109 452 }, { hash := PyData.keyHash P (Str.ofString "__slots__"), key := Value.str (Str.ofString "__slots__") 461, val := Value.ref 218 }, { hash := PyData.keyHash P (Str.ofString "__init__"), key := Value.str (Str.ofString "__init__") 468, val := Value.ref 225 }, { hash := PyData.keyHash P (Str.ofString "__len__"), key := Value.str (Str.ofString "__len__") 475, val := Value.ref 232 }, { hash := PyData.keyHash P (Str.ofString "__iter__"), key := Value.str (Str.ofString "__iter__") 483, val := Value.ref 239 }, { hash := PyData.keyHash P (Str.ofString "__contains__"), key := Value.str (Str.ofString "__contains__") 494, val := Value.ref 246 }, { hash := PyData.keyHash P (Str.ofString "__static_attributes__"), key := Value.str (Str.ofString "__static_attributes__") 502, val := Value.ref 247 }, { hash := PyData.keyHash P (Str.ofString "_adjdict"), key := Value.str (Str.ofString "_adjdict") 504, val := Value.ref 251 }, { hash := PyData.keyHash P (Str.ofString "_data"), key := Value.str (Str.ofString "_data") 506, val := Value.ref 252 }, { hash := PyData.keyHash P (Str.ofString "_default"), key := Value.str (Str.ofString "_default") 508, val := Value.ref 253 }, { hash := PyData.keyHash P (Str.ofString "_nbunch"), key := Value.str (Str.ofString "_nbunch") 510, val := Value.ref 254 }, { hash := PyData.keyHash P (Str.ofString "_nodes_nbrs"), key := Value.str (Str.ofString "_nodes_nbrs") 512, val := Value.ref 255 }, { hash := PyData.keyHash P (Str.ofString "_report"), key := Value.str (Str.ofString "_report") 514, val := Value.ref 256 }, { hash := PyData.keyHash P (Str.ofString "_viewer"), key := Value.str (Str.ofString "_viewer") 516, val := Value.ref 257 }, { hash := PyData.keyHash P (Str.ofString "__doc__"), key := Value.str (Str.ofString "__doc__") 517, val := Value.none }] 9 }),
  (250, { cls := Value.type "type", data := Data.cls { name := Str.ofString "OutEdgeDataView", bases := [Value.type "object"], mro := [Value.ref 250, Value.type "object"], ns := 249, qualname := Str.ofString "OutEdgeDataView", hasDict := false, slotNames := [Str.ofString "_adjdict", Str.ofString "_data", Str.ofString "_default", Str.ofString "_nbunch", Str.ofString "_nodes_nbrs", Str.ofString "_report", Str.ofString "_viewer"], subclasses := [Value.ref 292] }, slots := #[none, none, some (Value.str (Str.ofString "OutEdgeDataView") 442), some (Value.str (Str.ofString "OutEdgeDataView") 450), some (Value.builtin "object.__new__"), some (Value.bool false)] }),
  (251, { cls := Value.type "member_descriptor", data := Data.fields #[Value.str (Str.ofString "_adjdict") 503, Value.ref 250, Value.builtin "proto.slot", Value.builtin "proto.slot#set", Value.int 6 0] }),
  (252, { cls := Value.type "member_descriptor", data := Data.fields #[Value.str (Str.ofString "_data") 505, Value.ref 250, Value.builtin "proto.slot", Value.builtin "proto.slot#set", Value.int 5 0] }),
  (253, { cls := Value.type "member_descriptor", data := Data.fields #[Value.str (Str.ofString "_default") 507, Value.ref 250, Value.builtin "proto.slot", Value.builtin "proto.slot#set", Value.int 4 0] }),
  (254, { cls := Value.type "member_descriptor", data := Data.fields #[Value.str (Str.ofString "_nbunch") 509, Value.ref 250, Value.builtin "proto.slot", Value.builtin "proto.slot#set", Value.int 3 0] }),
  (255, { cls := Value.type "member_descriptor", data := Data.fields #[Value.str (Str.ofString "_nodes_nbrs") 511, Value.ref 250, Value.builtin "proto.slot", Value.builtin "proto.slot#set", Value.int 2 0] }),
  (256, { cls := Value.type "member_descriptor", data := Data.fields #[Value.str (Str.ofString "_report") 513, Value.ref 250, Value.builtin "proto.slot", Value.builtin "proto.slot#set", Value.int 1 0] }),
  (257, { cls := Value.type "member_descriptor", data := Data.fields #[Value.str (Str.ofString "_viewer") 515, Value.ref 250, Value.builtin "proto.slot", Value.builtin "proto.slot#set", Value.int 0 0] }),
  (260, { cls := Value.type "tuple", data := Data.seq #[Value.ref 250] }),
  (267, { cls := Value.type "tuple", data := Data.seq #[] }),
  (268, { cls := Value.type "tuple", data := Data.seq #[] }),
  (270, { cls := Value.type "tuple", data := Data.seq #[Value.str (Str.ofString "self") 536] }),
  (271, { cls := Value.type "tuple", data := Data.seq #[] }),
  (273, { cls := Value.type "code", data := Data.fields #[Value.str (Str.ofString "__len__") 533, Value.str (Str.ofString "EdgeDataView.__len__") 534, Value.str (Str.ofString "/claim/cut.py") 535, Value.int 148 0, Value.int 1 0, Value.int 0 0, Value.int 0 0, Value.int 3 0, Value.ref 268, Value.bool true, Value.int 181 0, Value.ref 269, Value.none, Value.ref 270, Value.ref 271, Value.ref 272, Value.int 537 0, Value.int 148 0, Value.str (Str.ofString "/claim/cut.py") 538] }),
  (274, { cls := Value.type "function", data := Data.func { name := Str.ofString "__len__", qualname := Str.ofString "EdgeDataView.__len__", params := (fdM 14 1).1, body := .stmts (fdM 14 1).2.1, scope := (fdM 14 1).2.2, globals := 3, closure := [], defaults := Value.none, kwdefaults := Value.none, pyModule := Value.str (Str.ofString "networkx.classes.reportviews") 362, code := Value.ref 273 } }),
  (275, { cls := Value.type "tuple", data := Data.seq #[] }),
  (277, { cls := Value.type "tuple", data := Data.seq #[Value.str (Str.ofString "self") 543, Value.str (Str.ofString "seen") 544, Value.str (Str.ofString "n") 545, Value.str (Str.ofString "nbrs") 546, Value.str (Str.ofString "nbr") 547, Value.str (Str.ofString "dd") 548] }),
  (278, { cls := Value.type "tuple", data := Data.seq #[] }),
  (280, { cls := Value.type "code", data := Data.fields #[Value.str (Str.ofString "__iter__") 540, Value.str (Str.ofString "EdgeDataView.__iter__") 541, Value.str (Str.ofString "/claim/cut.py") 542, Value.int 151 0, Value.int 1 0, Value.int 0 0, Value.int 0 0, Value.int 35 0, Value.ref 275, Value.bool true, Value.int 181 0, Value.ref 276, Value.none, Value.ref 277, Value.ref 278, Value.ref 279, Value.int 549 0, Value.int 151 0, Value.str (Str.ofString "/claim/cut.py") 550] }),
  (281, { cls := Value.type "function", data := Data.func { name := Str.ofString "__iter__", qualname := Str.ofString "EdgeDataView.__iter__", params := (fdM 14 2).1, body := .stmts (fdM 14 2).2.1, scope := (fdM 14 2).2.2, globals := 3, closure := [], defaults := Value.none, kwdefaults := Value.none, pyModule := Value.str (Str.ofString "networkx.classes.reportviews") 362, code := Value.ref 280 } }),
  (282, { cls := Value.type "tuple", data := Data.seq #[] }),
  (284, { cls := Value.type "tuple", data := Data.seq #[Value.str (Str.ofString "self") 555, Value.str (Str.ofString "e") 556, Value.str (Str.ofString "u") 557, Value.str (Str.ofString "v") 558, Value.str (Str.ofString "ddict") 559] }),
  (285, { cls := Value.type "tuple", data := Data.seq #[] }),
  (287, { cls := Value.type "code", data := Data.fields #[Value.str (Str.ofString "__contains__") 552, Value.str (Str.ofString "EdgeDataView.__contains__") 553, Value.str (Str.ofString "/claim/cut.py") 554, Value.int 160 0, Value.int 2 0, Value.int 0 0, Value.int 0 0, Value.int 3 0, Value.ref 282, Value.bool true, Value.int 181 0, Value.ref 283, Value.none, Value.ref 284, Value.ref 285, Value.ref 286, Value.int 560 0, Value.int 160 0, Value.str (Str.ofString "/claim/cut.py") 561] }),
  (288, { cls := Value.type "function", data := Data.func { name := Str.ofString "__contains__", qualname := Str.ofString "EdgeDataView.__contains__", params := (fdM 14 3).1, body := .stmts (fdM 14 3).2.1, scope := (fdM 14 3).2.2, globals := 3, closure := [], defaults := Value.none, kwdefaults := Value.none, pyModule := Value.str (Str.ofString "networkx.classes.reportviews") 362, code := Value.ref 287 } }),
  (289, { cls := Value.type "tuple", data := Data.seq #[] }),
  (291, { cls := Value.type "dict", data := Data.dict #[{ hash := PyData.keyHash P (Str.ofString "__module__"), key := Value.str (Str.ofString "__module__") 527, val := Value.str (Str.ofString "networkx.classes.reportviews") 362 }, { hash := PyData.keyHash P (Str.ofString "__firstlineno__"), key := Value.str (Str.ofString "__firstlineno__") 531, val := Value.int 145 530 }, { hash := PyData.keyHash P (Str.ofString "__slots__"), key := Value.str (Str.ofString "__slots__") 532, val := Value.ref 267 }, { hash := PyData.keyHash P (Str.ofString "__len__"), key := Value.str (Str.ofString "__len__") 539, val := Value.ref 274 }, { hash := PyData.keyHash P (Str.ofString "__iter__"), key := Value.str (Str.ofString "__iter__") 551, val := Value.ref 281 }, { hash := PyData.keyHash P (Str.ofString "__contains__"), key := Value.str (Str.ofString "__contains__") 562, val := Value.ref 288 }, { hash := PyData.keyHash P (Str.ofString "__static_attributes__"), key := Value.str (Str.ofString "__static_attributes__") 563, val := Value.ref 289 }, { hash := PyData.keyHash P (Str.ofString "__doc__"), key := Value.str (Str.ofString "__doc__") 564, val := Value.none }] 2 }),
  (292, { cls := Value.type "type", data := Data.cls { name := Str.ofString "EdgeDataView", bases := [Value.ref 250], mro := [Value.ref 292, Value.ref 250, Value.type "object"], ns := 291, qualname := Str.ofString "EdgeDataView", hasDict := false, slotNames := [Str.ofString "_adjdict", Str.ofString "_data", Str.ofString "_default", Str.ofString "_nbunch", Str.ofString "_nodes_nbrs", Str.ofString "_report", Str.ofString "_viewer"] }, slots := #[some (Value.ref 260), none, some (Value.str (Str.ofString "EdgeDataView") 520), some (Value.str (Str.ofString "EdgeDataView") 528), some (Value.builtin "object.__new__"), some (Value.bool false)] }),
  (302, { cls := Value.type "tuple", data := Data.seq #[Value.str (Str.ofString "_adjdict") 579, Value.str (Str.ofString "_graph_ref") 580, Value.str (Str.ofString "_nodes_nbrs") 581] }),
  (303, { cls := Value.type "tuple", data := Data.seq #[] }),
  (305, { cls := Value.type "tuple", data := Data.seq #[Value.str (Str.ofString "self") 587, Value.str (Str.ofString "G") 588] }),
  (306, { cls := Value.type "tuple", data := Data.seq #[] }),
  (308, { cls := Value.type "code", data := Data.fields #[Value.str (Str.ofString "__init__") 584, Value.str (Str.ofString "OutEdgeView.__init__") 585, Value.str (Str.ofString "/claim/cut.py") 586, Value.int 173 0, Value.int 2 0, Value.int 0 0, Value.int 0 0, Value.int 3 0, Value.ref 303, Value.bool true, Value.int 181 0, Value.ref 304, Value.none, Value.ref 305, Value.ref 306, Value.ref 307, Value.int 589 0, Value.int 173 0, Value.str (Str.ofString "/claim/cut.py") 590] }),
  (309, { cls := Value.type "function", data := Data.func { name := Str.ofString "__init__", qualname := Str.ofString "OutEdgeView.__init__", params := (fdM 15 2).1, body := .stmts (fdM 15 2).2.1, scope := (fdM 15 2).2.2, globals := 3, closure := [], defaults := Value.none, kwdefaults := Value.none, pyModule := Value.str (Str.ofString "networkx.classes.reportviews") 362, code := Value.ref 308 } }),
  (310, { cls := Value.type "tuple", data := Data.seq #[] }),
  (312, { cls := Value.type "tuple", data := Data.seq #[Value.str (Str.ofString "self") 595] }),
  (313, { cls := Value.type "tuple", data := Data.seq #[] }),
  (315, { cls := Value.type "code", data := Data.fields #[Value.str (Str.ofString "__len__") 592, Value.str (Str.ofString "OutEdgeView.__len__") 593, Value.str (Str.ofString "/claim/cut.py") 594, Value.int 177 0, Value.int 1 0, Value.int 0 0, Value.int 0 0, Value.int 3 0, Value.ref 310, Value.bool true, Value.int 181 0, Value.ref 311, Value.none, Value.ref 312, Value.ref 313, Value.ref 314, Value.int 596 0, Value.int 177 0, Value.str (Str.ofString "/claim/cut.py") 597] }),
  (316, { cls := Value.type "function", data := Data.func { name := Str.ofString "__len__", qualname := Str.ofString "OutEdgeView.__len__", params := (fdM 15 3).1, body := .stmts (fdM 15 3).2.1, scope := (fdM 15 3).2.2, globals := 3, closure := [], defaults := Value.none, kwdefaults := Value.none, pyModule := Value.str (Str.ofString "networkx.classes.reportviews") 362, code := Value.ref 315 } }),
  (317, { cls := Value.type "tuple", data := Data.seq #[] }),
  (319, { cls := Value.type "tuple", data := Data.seq #[Value.str (Str.ofString "self") 602, Value.str (Str.ofString "n") 603, Value.str (Str.ofString "nbrs") 604, Value.str (Str.ofString "nbr") 605] }),
  (320, { cls := Value.type "tuple", data := Data.seq #[] }),
  (322, { cls := Value.type "code", data := Data.fields #[Value.str (Str.ofString "__iter__") 599, Value.str (Str.ofString "OutEdgeView.__iter__") 600, Value.str (Str.ofString "/claim/cut.py") 601, Value.int 180 0, Value.int 1 0, Value.int 0 0, Value.int 0 0, Value.int 35 0, Value.ref 317, Value.bool true, Value.int 181 0, Value.ref 318, Value.none, Value.ref 319, Value.ref 320, Value.ref 321, Value.int 606 0, Value.int 180 0, Value.str (Str.ofString "/claim/cut.py") 607] }),
  (323, { cls := Value.type "function", data := Data.func { name := Str.ofString "__iter__", qualname := Str.ofString "OutEdgeView.__iter__", params := (fdM 15 4).1, body := .stmts (fdM 15 4).2.1, scope := (fdM 15 4).2.2, globals := 3, closure := [], defaults := Value.none, kwdefaults := Value.none, pyModule := Value.str (Str.ofString "networkx.classes.reportviews") 362, code := Value.ref 322 } }),
  (324, { cls := Value.type "tuple", data := Data.seq #[] }),
  (326, { cls := Value.type "tuple", data := Data.seq #[Value.str (Str.ofString "self") 612, Value.str (Str.ofString "e") 613, Value.str (Str.ofString "u") 614, Value.str (Str.ofString "v") 615] }),
  (327, { cls := Value.type "tuple", data := Data.seq #[] }),
  (329, { cls := Value.type "code", data := Data.fields #[Value.str (Str.ofString "__contains__") 609, Value.str (Str.ofString "OutEdgeView.__contains__") 610, Value.str (Str.ofString "/claim/cut.py") 611, Value.int 185 0, Value.int 2 0, Value.int 0 0, Value.int 0 0, Value.int 3 0, Value.ref 324, Value.bool true, Value.int 181 0, Value.ref 325, Value.none, Value.ref 326, Value.ref 327, Value.ref 328, Value.int 616 0, Value.int 185 0, Value.str (Str.ofString "/claim/cut.py") 617] }),
  (330, { cls := Value.type "function", data := Data.func { name := Str.ofString "__contains__", qualname := Str.ofString "OutEdgeView.__contains__", params := (fdM 15 5).1, body := .stmts (fdM 15 5).2.1, scope := (fdM 15 5).2.2, globals := 3, closure := [], defaults := Value.none, kwdefaults := Value.none, pyModule := Value.str (Str.ofString "networkx.classes.reportviews") 362, code := Value.ref 329 } }),
  (331, { cls := Value.type "tuple", data := Data.seq #[Value.none, Value.bool false] }),
  (332, { cls := Value.type "dict", data := Data.dict #[{ hash := PyData.keyHash P (Str.ofString "default"), key := Value.str (Str.ofString "default") 619, val := Value.none }] 1 }),
  (333, { cls := Value.type "tuple", data := Data.seq #[] }),
  (335, { cls := Value.type "tuple", data := Data.seq #[Value.str (Str.ofString "self") 623, Value.str (Str.ofString "nbunch") 624, Value.str (Str.ofString "data") 625, Value.str (Str.ofString "default") 626] }),
  (336, { cls := Value.type "tuple", data := Data.seq #[] }),
  (338, { cls := Value.type "code", data := Data.fields #[Value.str (Str.ofString "__call__") 620, Value.str (Str.ofString "OutEdgeView.__call__") 621, Value.str (Str.ofString "/claim/cut.py") 622, Value.int 192 0, Value.int 3 0, Value.int 0 0, Value.int 1 0, Value.int 3 0, Value.ref 333, Value.bool true, Value.int 181 0, Value.ref 334, Value.none, Value.ref 335, Value.ref 336, Value.ref 337, Value.int 627 0, Value.int 192 0, Value.str (Str.ofString "/claim/cut.py") 628] }),
  (339, { cls := Value.type "function", data := Data.func { name := Str.ofString "__call__", qualname := Str.ofString "OutEdgeView.__call__", params := (fdM 15 6).1, body := .stmts (fdM 15 6).2.1, scope := (fdM 15 6).2.2, globals := 3, closure := [], defaults := Value.ref 331, kwdefaults := Value.ref 332, pyModule := Value.str (Str.ofString "networkx.classes.reportviews") 362, code := Value.ref 338 } }),
  (340, { cls := Value.type "tuple", data := Data.seq #[Value.str (Str.ofString "_adjdict") 630, Value.str (Str.ofString "_nodes_nbrs") 631] }),
  (342, { cls := Value.type "dict", data := Data.dict #[{ hash := PyData.keyHash P (Str.ofString "__module__"), key := Value.str (Str.ofString "__module__") 574, val := Value.str (Str.ofString "networkx.classes.reportviews") 362 }, { hash := PyData.keyHash P (Str.ofString "__firstlineno__"), key := Value.str (Str.ofString "__firstlineno__") 578, val := Value.int 169 577 }, { hash := PyData.keyHash P (Str.ofString "__slots__"), key := Value.str (Str.ofString "__slots__") 582, val := Value.ref 302 }, { hash := PyData.keyHash P (Str.ofString "dataview"), key := Value.str (Str.ofString "dataview") 583, val := Value.ref 250 }, { hash := PyData.keyHash P (Str.ofString "__init__"), key := Value.str (Str.ofString "__init__") 591, val := Value.ref 309 }, { hash := PyData.keyHash P (Str.ofString "__len__"), key := Value.str (Str.ofString "__len__") 598, val := Value.ref 316 }, { hash := PyData.keyHash P (Str.ofString "__iter__"), key := Value.str (Str.ofString "__iter__") 608, val := Value.ref 323 }, { hash := PyData.keyHash P (Str.ofString "__contains__"), key := Value.str (Str.ofString "__contains__") 618, val := Value.ref 330 }, { hash := PyData.keyHash P (Str.ofString "__call__"), key := Value.str (Str.ofString "__call__") 629, val := Value.ref 339 }, { hash := PyData.keyHash P (Str.ofString "__static_attributes__"), key := Value.str (Str.ofString "__static_attributes__") 632, val := Value.ref 340 }, { hash := PyData.keyHash P (Str.ofString "_adjdict"), key := Value.str (Str.ofString "_adjdict") 634, val := Value.ref 344 }, { hash := PyData.keyHash P (Str.ofString "_graph_ref"), key := Value.str (Str.ofString "_graph_ref") 636, val := Value.ref 345 }, { hash := PyData.keyHash P (Str.ofString "_nodes_nbrs"), key := Value.str (Str.ofString "_nodes_nbrs") 638, val := Value.ref 346 }, { hash := PyData.keyHash P (Str.ofString "__doc__"), key := Value.str (Str.ofString "__doc__") 639, val := Value.none }] 5 }),
  (343, { cls := Value.type "type", data := Data.cls { name := Str.ofString "OutEdgeView", bases := [Value.type "object"], mro := [Value.ref 343, Value.type "object"], ns := 342, qualname := Str.ofString "OutEdgeView", hasDict := false, slotNames := [Str.ofString "_adjdict", Str.ofString "_graph_ref", Str.ofString "_nodes_nbrs"], subclasses := [Value.ref 381] }, slots := #[none, none, some (Value.str (Str.ofString "OutEdgeView") 567), some (Value.str (Str.ofString "OutEdgeView") 575), some (Value.builtin "object.__new__"), some (Value.bool false)] }),
  (344, { cls := Value.type "member_descriptor", data := Data.fields #[Value.str (Str.ofString "_adjdict") 633, Value.ref 343, Value.builtin "proto.slot", Value.builtin "proto.slot#set", Value.int 2 0] }),
  (345, { cls := Value.type "member_descriptor", data := Data.fields #[Value.str (Str.ofString "_graph_ref") 635, Value.ref 343, Value.builtin "proto.slot", Value.builtin "proto.slot#set", Value.int 1 0] }),
  (346, { cls := Value.type "member_descriptor", data := Data.fields #[Value.str (Str.ofString "_nodes_nbrs") 637, Value.ref 343, Value.builtin "proto.slot", Value.builtin "proto.slot#set", Value.int 0 0] }),
  (349, { cls := Value.type "tuple", data := Data.seq #[Value.ref 343] }),
  (356, { cls := Value.type "tuple", data := Data.seq #[] }),
  (357, { cls := Value.type "tuple", data := Data.seq #[] }),
  (359, { cls := Value.type "tuple", data := Data.seq #[Value.str (Str.ofString "self") 659, Value.str (Str.ofString "num_nbrs") 660] }),
  (360, { cls := Value.type "tuple", data := Data.seq #[] }),
  (362, { cls := Value.type "code", data := Data.fields #[Value.str (Str.ofString "__len__") 656, Value.str (Str.ofString "EdgeView.__len__") 657, Value.str (Str.ofString "/claim/cut.py") 658, Value.int 200 0, Value.int 1 0, Value.int 0 0, Value.int 0 0, Value.int 3 0, Value.ref 357, Value.bool true, Value.int 181 0, Value.ref 358, Value.none, Value.ref 359, Value.ref 360, Value.ref 361, Value.int 661 0, Value.int 200 0, Value.str (Str.ofString "/claim/cut.py") 662] }),
  (363, { cls := Value.type "function", data := Data.func { name := Str.ofString "__len__", qualname := Str.ofString "EdgeView.__len__", params := (fdM 16 2).1, body := .stmts (fdM 16 2).2.1, scope := (fdM 16 2).2.2, globals := 3, closure := [], defaults := Value.none, kwdefaults := Value.none, pyModule := Value.str (Str.ofString "networkx.classes.reportviews") 362, code := Value.ref 362 } }),
  (364, { cls := Value.type "tuple", data := Data.seq #[] }),
  (366, { cls := Value.type "tuple", data := Data.seq #[Value.str (Str.ofString "self") 667, Value.str (Str.ofString "seen") 668, Value.str (Str.ofString "n") 669, Value.str (Str.ofString "nbrs") 670, Value.str (Str.ofString "nbr") 671] }),
  (367, { cls := Value.type "tuple", data := Data.seq #[] }),
  (369, { cls := Value.type "code", data := Data.fields #[Value.str (Str.ofString "__iter__") 664, Value.str (Str.ofString "EdgeView.__iter__") 665, Value.str (Str.ofString "/claim/cut.py") 666, Value.int 204 0, Value.int 1 0, Value.int 0 0, Value.int 0 0, Value.int 35 0, Value.ref 364, Value.bool true, Value.int 181 0, Value.ref 365, Value.none, Value.ref 366, Value.ref 367, Value.ref 368, Value.int 672 0, Value.int 204 0, Value.str (Str.ofString "/claim/cut.py") 673] }),
  (370, { cls := Value.type "function", data := Data.func { name := Str.ofString "__iter__", qualname := Str.ofString "EdgeView.__iter__", params := (fdM 16 3).1, body := .stmts (fdM 16 3).2.1, scope := (fdM 16 3).2.2, globals := 3, closure := [], defaults := Value.none, kwdefaults := Value.none, pyModule := Value.str (Str.ofString "networkx.classes.reportviews") 362, code := Value.ref 369 } }),
  (371, { cls := Value.type "tuple", data := Data.seq #[] }),
  (373, { cls := Value.type "tuple", data := Data.seq #[Value.str (Str.ofString "self") 678, Value.str (Str.ofString "e") 679, Value.str (Str.ofString "u") 680, Value.str (Str.ofString "v") 681] }),
  (374, { cls := Value.type "tuple", data := Data.seq #[] }),
  (376, { cls := Value.type "code", data := Data.fields #[Value.str (Str.ofString "__contains__") 675, Value.str (Str.ofString "EdgeView.__contains__") 676, Value.str (Str.ofString "/claim/cut.py") 677, Value.int 213 0, Value.int 2 0, Value.int 0 0, Value.int 0 0, Value.int 3 0, Value.ref 371, Value.bool true, Value.int 181 0, Value.ref 372, Value.none, Value.ref 373, Value.ref 374, Value.ref 375, Value.int 682 0, Value.int 213 0, Value.str (Str.ofString "/claim/cut.py") 683] }),
  (377, { cls := Value.type "function", data := Data.func { name := Str.ofString "__contains__", qualname := Str.ofString "EdgeView.__contains__", params := (fdM 16 4).1, body := .stmts (fdM 16 4).2.1, scope := (fdM 16 4).2.2, globals := 3, closure := [], defaults := Value.none, kwdefaults := Value.none, pyModule := Value.str (Str.ofString "networkx.classes.reportviews") 362, code := Value.ref 376 } }),
  (378, { cls := Value.type "tuple", data := Data.seq #[] }),
  (380, { cls := Value.type "dict", data := Data.dict #[{ hash := PyData.keyHash P (Str.ofString "__module__"), key := Value.str (Str.ofString "__module__") 649, val := Value.str (Str.ofString "networkx.classes.reportviews") 362 }, { hash := PyData.keyHash P (Str.ofString "__firstlineno__"), key := Value.str (Str.ofString "__firstlineno__") 653, val := Value.int 196 652 }, { hash := PyData.keyHash P (Str.ofString "__slots__"), key := Value.str (Str.ofString "__slots__") 654, val := Value.ref 356 }, { hash := PyData.keyHash P (Str.ofString "dataview"), key := Value.str (Str.ofString "dataview") 655, val := Value.ref 292 }, { hash := PyData.keyHash P (Str.ofString "__len__"), key := Value.str (Str.ofString "__len__") 663, val := Value.ref 363 }, { hash := PyData.keyHash P (Str.ofString "__iter__"), key := Value.str (Str.ofString "__iter__") 674, val := Value.ref 370 }, { hash := PyData.keyHash P (Str.ofString "__contains__"), key := Value.str (Str.ofString "__contains__") 684, val := Value.ref 377 }, { hash := PyData.keyHash P (Str.ofString "__static_attributes__"), key := Value.str (Str.ofString "__static_attributes__") 685, val := Value.ref 378 }, { hash := PyData.keyHash P (Str.ofString "__doc__"), key := Value.str (Str.ofString "__doc__") 686, val := Value.none }] 2 }),
  (381, { cls := Value.type "type", data := Data.cls { name := Str.ofString "EdgeView", bases := [Value.ref 343], mro := [Value.ref 381, Value.ref 343, Value.type "object"], ns := 380, qualname := Str.ofString "EdgeView", hasDict := false, slotNames := [Str.ofString "_adjdict", Str.ofString "_graph_ref", Str.ofString "_nodes_nbrs"] }, slots := #[some (Value.ref 349), none, some (Value.str (Str.ofString "EdgeView") 642), some (Value.str (Str.ofString "EdgeView") 650), some (Value.builtin "object.__new__"), some (Value.bool false)] }),
  (384, { cls := Value.type "object" }),
  (392, { cls := Value.type "tuple", data := Data.seq #[] }),
  (394, { cls := Value.type "tuple", data := Data.seq #[Value.str (Str.ofString "self") 707, Value.str (Str.ofString "func") 708] }),
  (395, { cls := Value.type "tuple", data := Data.seq #[] }),
  (397, { cls := Value.type "code", data := Data.fields #[Value.str (Str.ofString "__init__") 704, Value.str (Str.ofString "cached_property.__init__") 705, Value.str (Str.ofString "/claim/cut.py") 706, Value.int 223 0, Value.int 2 0, Value.int 0 0, Value.int 0 0, Value.int 3 0, Value.ref 392, Value.bool true, Value.int 181 0, Value.ref 393, Value.none, Value.ref 394, Value.ref 395, Value.ref 396, Value.int 709 0, Value.int 223 0, Value.str (Str.ofString "/claim/cut.py") 710] }),
  (398, { cls := Value.type "function", data := Data.func { name := Str.ofString "__init__", qualname := Str.ofString "cached_property.__init__", params := (fdM 19 0).1, body := .stmts (fdM 19 0).2.1, scope := (fdM 19 0).2.2, globals := 3, closure := [], defaults := Value.none, kwdefaults := Value.none, pyModule := Value.str (Str.ofString "functools") 689, code := Value.ref 397 } }),
  (399, { cls := Value.type "tuple", data := Data.seq #[] }),
  (401, { cls := Value.type "tuple", data := Data.seq #[Value.str (Str.ofString "self") 715, Value.str (Str.ofString "owner") 716, Value.str (Str.ofString "name") 717] }),
  (402, { cls := Value.type "tuple", data := Data.seq #[] }),
  (404, { cls := Value.type "code", data := Data.fields #[Value.str (Str.ofString "__set_name__") 712, Value.str (Str.ofString "cached_property.__set_name__") 713, Value.str (Str.ofString "/claim/cut.py") 714, Value.int 229 0, Value.int 3 0, Value.int 0 0, Value.int 0 0, Value.int 3 0, Value.ref 399, Value.bool true, Value.int 181 0, Value.ref 400, Value.none, Value.ref 401, Value.ref 402, Value.ref 403, Value.int 718 0, Value.int 229 0, Value.str (Str.ofString "/claim/cut.py") 719] }),
  (405, { cls := Value.type "function", data := Data.func { name := Str.ofString "__set_name__", qualname := Str.ofString "cached_property.__set_name__", params := (fdM 19 1).1, body := .stmts (fdM 19 1).2.1, scope := (fdM 19 1).2.2, globals := 3, closure := [], defaults := Value.none, kwdefaults := Value.none, pyModule := Value.str (Str.ofString "functools") 689, code := Value.ref 404 } }),
  (406, { cls := Value.type "tuple", data := Data.seq #[Value.none] }),
  (407, { cls := Value.type "tuple", data := Data.seq #[] }),
  (409, { cls := Value.type "tuple", data := Data.seq #[Value.str (Str.ofString "self") 724, Value.str (Str.ofString "instance") 725, Value.str (Str.ofString "owner") 726, Value.str (Str.ofString "cache") 727, Value.str (Str.ofString "kind") 728, Value.str (Str.ofString "msg") 729, Value.str (Str.ofString "val") 730] }),
  (410, { cls := Value.type "tuple", data := Data.seq #[] }),
  (412, { cls := Value.type "code", data := Data.fields #[Value.str (Str.ofString "__get__") 721, Value.str (Str.ofString "cached_property.__get__") 722, Value.str (Str.ofString "/claim/cut.py") 723, Value.int 235 0, Value.int 3 0, Value.int 0 0, Value.int 0 0, Value.int 3 0, Value.ref 407, Value.bool true, Value.int 181 0, Value.ref 408, Value.none, Value.ref 409, Value.ref 410, Value.ref 411, Value.int 731 0, Value.int 235 0, Value.str (Str.ofString "/claim/cut.py") 732] }),
  (413, { cls := Value.type "function", data := Data.func { name := Str.ofString "__get__", qualname := Str.ofString "cached_property.__get__", params := (fdM 19 2).1, body := .stmts (fdM 19 2).2.1, scope := (fdM 19 2).2.2, globals := 3, closure := [], defaults := Value.ref 406, kwdefaults := Value.none, pyModule := Value.str (Str.ofString "functools") 689, code := Value.ref 412 } }),
  (414, { cls := Value.type "tuple", data := Data.seq #[] }),
  (416, { cls := Value.type "tuple", data := Data.seq #[Value.str (Str.ofString "cls") 737, Value.str (Str.ofString "item") 738] }),
  (417, { cls := Value.type "tuple", data := Data.seq #[] }),
  (419, { cls := Value.type "code", data := Data.fields #[Value.str (Str.ofString "__class_getitem__") 734, Value.str (Str.ofString "cached_property.__class_getitem__") 735, Value.str (Str.ofString "/claim/cut.py") 736, Value.int 257 0, Value.int 2 0, Value.int 0 0, Value.int 0 0, Value.int 3 0, Value.ref 414, Value.bool true, Value.int 181 0, Value.ref 415, Value.none, Value.ref 416, Value.ref 417, Value.ref 418, Value.int 739 0, Value.int 257 0, Value.str (Str.ofString "/claim/cut.py") 740] }),
  (420, { cls := Value.type "function", data := Data.func { name := Str.ofString "__class_getitem__", qualname := Str.ofString "cached_property.__class_getitem__", params := (fdM 19 3).1, body := .stmts (fdM 19 3).2.1, scope := (fdM 19 3).2.2, globals := 3, closure := [], defaults := Value.none, kwdefaults := Value.none, pyModule := Value.str (Str.ofString "functools") 689, code := Value.ref 419 } }),
  (421, { cls := Value.type "tuple", data := Data.seq #[Value.str (Str.ofString "__doc__") 742, Value.str (Str.ofString "__module__") 743, Value.str (Str.ofString "attrname") 744, Value.str (Str.ofString "func") 745] }),
  (422, { cls := Value.type "dict", data := Data.dict #[{ hash := PyData.keyHash P (Str.ofString "__module__"), key := Value.str (Str.ofString "__module__") 699, val := Value.str (Str.ofString "functools") 689 }, { hash := PyData.keyHash P (Str.ofString "__firstlineno__"), key := Value.str (Str.ofString "__firstlineno__") 703, val := Value.int 221 702 }, { hash := PyData.keyHash P (Str.ofString "__init__"), key := Value.str (Str.ofString "__init__") 711, val := Value.ref 398 }, { hash := PyData.keyHash P (Str.ofString "__set_name__"), key := Value.str (Str.ofString "__set_name__") 720, val := Value.ref 405 }, { hash := PyData.keyHash P (Str.ofString "__get__"), key := Value.str (Str.ofString "__get__") 733, val := Value.ref 413 }, { hash := PyData.keyHash P (Str.ofString "__class_getitem__"), key := Value.str (Str.ofString "__class_getitem__") 741, val := Value.ref 424 }, { hash := PyData.keyHash P (Str.ofString "__static_attributes__"), key := Value.str (Str.ofString "__static_attributes__") 746, val := Value.ref 421 }, { hash := PyData.keyHash P (Str.ofString "__dict__"), key := Value.str (Str.ofString "__dict__") 749, val := Value.ref 425 }, { hash := PyData.keyHash P (Str.ofString "__weakref__"), key := Value.str (Str.ofString "__weakref__") 751, val := Value.ref 426 }, { hash := PyData.keyHash P (Str.ofString "__doc__"), key := Value.str (Str.ofString "__doc__") 752, val := Value.none }] 4 }),
  (423, { cls := Value.type "type", data := Data.cls { name := Str.ofString "cached_property", bases := [Value.type "object"], mro := [Value.ref 423, Value.type "object"], ns := 422, qualname := Str.ofString "cached_property" }, slots := #[none, none, some (Value.str (Str.ofString "cached_property") 692), some (Value.str (Str.ofString "cached_property") 700), some (Value.builtin "object.__new__"), some (Value.bool true)] }),
  (424, { cls := Value.type "classmethod", data := Data.fields #[Value.ref 420] }),
  (425, { cls := Value.type "getset_descriptor", data := Data.fields #[Value.str (Str.ofString "__dict__") 748, Value.ref 423, Value.builtin "function.__dict__", Value.builtin "function.__dict__#set"] }),
  (426, { cls := Value.type "getset_descriptor", data := Data.fields #[Value.str (Str.ofString "__weakref__") 750, Value.ref 423, Value.builtin "ExceptionGroup.__weakref__", Value.none] }),
  (436, { cls := Value.type "tuple", data := Data.seq #[Value.none] }),
  (437, { cls := Value.type "tuple", data := Data.seq #[] }),
  (439, { cls := Value.type "tuple", data := Data.seq #[Value.str (Str.ofString "self") 778, Value.str (Str.ofString "incoming_graph_data") 779, Value.str (Str.ofString "attr") 780] }),
  (440, { cls := Value.type "tuple", data := Data.seq #[] }),
  (442, { cls := Value.type "code", data := Data.fields #[Value.str (Str.ofString "__init__") 775, Value.str (Str.ofString "Graph.__init__") 776, Value.str (Str.ofString "/claim/cut.py") 777, Value.int 268 0, Value.int 2 0, Value.int 0 0, Value.int 0 0, Value.int 11 0, Value.ref 437, Value.bool true, Value.int 181 0, Value.ref 438, Value.none, Value.ref 439, Value.ref 440, Value.ref 441, Value.int 781 0, Value.int 268 0, Value.str (Str.ofString "/claim/cut.py") 782] }),
  (443, { cls := Value.type "function", data := Data.func { name := Str.ofString "__init__", qualname := Str.ofString "Graph.__init__", params := (fdM 21 6).1, body := .stmts (fdM 21 6).2.1, scope := (fdM 21 6).2.2, globals := 3, closure := [], defaults := Value.ref 436, kwdefaults := Value.none, pyModule := Value.str (Str.ofString "networkx.classes.graph") 755, code := Value.ref 442 } }),
  (444, { cls := Value.type "tuple", data := Data.seq #[] }),
  (446, { cls := Value.type "tuple", data := Data.seq #[Value.str (Str.ofString "self") 787] }),
  (447, { cls := Value.type "tuple", data := Data.seq #[] }),
  (449, { cls := Value.type "code", data := Data.fields #[Value.str (Str.ofString "adj") 784, Value.str (Str.ofString "Graph.adj") 785, Value.str (Str.ofString "/claim/cut.py") 786, Value.int 276 0, Value.int 1 0, Value.int 0 0, Value.int 0 0, Value.int 3 0, Value.ref 444, Value.bool true, Value.int 181 0, Value.ref 445, Value.none, Value.ref 446, Value.ref 447, Value.ref 448, Value.int 788 0, Value.int 276 0, Value.str (Str.ofString "/claim/cut.py") 789] }),
  (450, { cls := Value.type "function", data := Data.func { name := Str.ofString "adj", qualname := Str.ofString "Graph.adj", params := (fdM 21 7).1, body := .stmts (fdM 21 7).2.1, scope := (fdM 21 7).2.2, globals := 3, closure := [], defaults := Value.none, kwdefaults := Value.none, pyModule := Value.str (Str.ofString "networkx.classes.graph") 755, code := Value.ref 449 } }),
  (451, { cls := Value.type "dict", data := Data.dict #[{ hash := PyData.keyHash P (Str.ofString "func"), key := Value.str (Str.ofString "func") 793, val := Value.ref 450 }, { hash := PyData.keyHash P (Str.ofString "attrname"), key := Value.str (Str.ofString "attrname") 795, val := Value.str (Str.ofString "adj") 802 }, { hash := PyData.keyHash P (Str.ofString "__doc__"), key := Value.str (Str.ofString "__doc__") 798, val := Value.none }, { hash := PyData.keyHash P (Str.ofString "__module__"), key := Value.str (Str.ofString "__module__") 801, val := Value.str (Str.ofString "networkx.classes.graph") 755 }] 4 }),
  (452, { cls := Value.ref 423, dict := some 451 }),
  (454, { cls := Value.type "tuple", data := Data.seq #[] }),
  (456, { cls := Value.type "tuple", data := Data.seq #[Value.str (Str.ofString "self") 806] }),
  (457, { cls := Value.type "tuple", data := Data.seq #[] }),
  (459, { cls := Value.type "code", data := Data.fields #[Value.str (Str.ofString "__iter__") 803, Value.str (Str.ofString "Graph.__iter__") 804, Value.str (Str.ofString "/claim/cut.py") 805, Value.int 280 0, Value.int 1 0, Value.int 0 0, Value.int 0 0, Value.int 3 0, Value.ref 454, Value.bool true, Value.int 181 0, Value.ref 455, Value.none, Value.ref 456, Value.ref 457, Value.ref 458, Value.int 807 0, Value.int 280 0, Value.str (Str.ofString "/claim/cut.py") 808] }),
  (460, { cls := Value.type "function", data := Data.func { name := Str.ofString "__iter__", qualname := Str.ofString "Graph.__iter__", params := (fdM 21 8).1, body := .stmts (fdM 21 8).2.1, scope := (fdM 21 8).2.2, globals := 3, closure := [], defaults := Value.none, kwdefaults := Value.none, pyModule := Value.str (Str.ofString "networkx.classes.graph") 755, code := Value.ref 459 } }),
  (461, { cls := Value.type "tuple", data := Data.seq #[] }),
  (463, { cls := Value.type "tuple", data := Data.seq #[Value.str (Str.ofString "self") 813, Value.str (Str.ofString "n") 814] }),
  (464, { cls := Value.type "tuple", data := Data.seq #[] }),
  (466, { cls := Value.type "code", data := Data.fields #[Value.str (Str.ofString "__contains__") 810, Value.str (Str.ofString "Graph.__contains__") 811, Value.str (Str.ofString "/claim/cut.py") 812, Value.int 283 0, Value.int 2 0, Value.int 0 0, Value.int 0 0, Value.int 3 0, Value.ref 461, Value.bool true, Value.int 181 0, Value.ref 462, Value.none, Value.ref 463, Value.ref 464, Value.ref 465, Value.int 815 0, Value.int 283 0, Value.str (Str.ofString "/claim/cut.py") 816] }),
  (467, { cls := Value.type "function", data := Data.func { name := Str.ofString "__contains__", qualname := Str.ofString "Graph.__contains__", params := (fdM 21 9).1, body := .stmts (fdM 21 9).2.1, scope := (fdM 21 9).2.2, globals := 3, closure := [], defaults := Value.none, kwdefaults := Value.none, pyModule := Value.str (Str.ofString "networkx.classes.graph") 755, code := Value.ref 466 } }),
  (468, { cls := Value.type "tuple", data := Data.seq #[] }),
  (470, { cls := Value.type "tuple", data := Data.seq #[Value.str (Str.ofString "self") 821] }),
  (471, { cls := Value.type "tuple", data := Data.seq #[] }),
  (473, { cls := Value.type "code", data := Data.fields #[Value.str (Str.ofString "__len__") 818, Value.str (Str.ofString "Graph.__len__") 819, Value.str (Str.ofString "/claim/cut.py") 820, Value.int 289 0, Value.int 1 0, Value.int 0 0, Value.int 0 0, Value.int 3 0, Value.ref 468, Value.bool true, Value.int 181 0, Value.ref 469, Value.none, Value.ref 470, Value.ref 471, Value.ref 472, Value.int 822 0, Value.int 289 0, Value.str (Str.ofString "/claim/cut.py") 823] }),
  (474, { cls := Value.type "function", data := Data.func { name := Str.ofString "__len__", qualname := Str.ofString "Graph.__len__", params := (fdM 21 10).1, body := .stmts (fdM 21 10).2.1, scope := (fdM 21 10).2.2, globals := 3, closure := [], defaults := Value.none, kwdefaults := Value.none, pyModule := Value.str (Str.ofString "networkx.classes.graph") 755, code := Value.ref 473 } }),
  (475, { cls := Value.type "tuple", data := Data.seq #[] }),
  (477, { cls := Value.type "tuple", data := Data.seq #[Value.str (Str.ofString "self") 828, Value.str (Str.ofString "n") 829] }),
  (478, { cls := Value.type "tuple", data := Data.seq #[] }),
  (480, { cls := Value.type "code", data := Data.fields #[Value.str (Str.ofString "__getitem__") 825, Value.str (Str.ofString "Graph.__getitem__") 826, Value.str (Str.ofString "/claim/cut.py") 827, Value.int 292 0, Value.int 2 0, Value.int 0 0, Value.int 0 0, Value.int 3 0, Value.ref 475, Value.bool true, Value.int 181 0, Value.ref 476, Value.none, Value.ref 477, Value.ref 478, Value.ref 479, Value.int 830 0, Value.int 292 0, Value.str (Str.ofString "/claim/cut.py") 831] }),
  (481, { cls := Value.type "function", data := Data.func { name := Str.ofString "__getitem__", qualname := Str.ofString "Graph.__getitem__", params := (fdM 21 11).1, body := .stmts (fdM 21 11).2.1, scope := (fdM 21 11).2.2, globals := 3, closure := [], defaults := Value.none, kwdefaults := Value.none, pyModule := Value.str (Str.ofString "networkx.classes.graph") 755, code := Value.ref 480 } }),
  (482, { cls := Value.type "tuple", data := Data.seq #[] }),
  (484, { cls := Value.type "tuple", data := Data.seq #[Value.str (Str.ofString "self") 836, Value.str (Str.ofString "node_for_adding") 837, Value.str (Str.ofString "attr") 838] }),
  (485, { cls := Value.type "tuple", data := Data.seq #[] }),
  (487, { cls := Value.type "code", data := Data.fields #[Value.str (Str.ofString "add_node") 833, Value.str (Str.ofString "Graph.add_node") 834, Value.str (Str.ofString "/claim/cut.py") 835, Value.int 295 0, Value.int 2 0, Value.int 0 0, Value.int 0 0, Value.int 11 0, Value.ref 482, Value.bool true, Value.int 181 0, Value.ref 483, Value.none, Value.ref 484, Value.ref 485, Value.ref 486, Value.int 839 0, Value.int 295 0, Value.str (Str.ofString "/claim/cut.py") 840] }),
  (488, { cls := Value.type "function", data := Data.func { name := Str.ofString "add_node", qualname := Str.ofString "Graph.add_node", params := (fdM 21 12).1, body := .stmts (fdM 21 12).2.1, scope := (fdM 21 12).2.2, globals := 3, closure := [], defaults := Value.none, kwdefaults := Value.none, pyModule := Value.str (Str.ofString "networkx.classes.graph") 755, code := Value.ref 487 } }),
  (489, { cls := Value.type "tuple", data := Data.seq #[] }),
  (491, { cls := Value.type "tuple", data := Data.seq #[Value.str (Str.ofString "self") 845, Value.str (Str.ofString "nodes_for_adding") 846, Value.str (Str.ofString "attr") 847, Value.str (Str.ofString "n") 848, Value.str (Str.ofString "newnode") 849, Value.str (Str.ofString "newdict") 850, Value.str (Str.ofString "ndict") 851] }),
  (492, { cls := Value.type "tuple", data := Data.seq #[] }),
  (494, { cls := Value.type "code", data := Data.fields #[Value.str (Str.ofString "add_nodes_from") 842, Value.str (Str.ofString "Graph.add_nodes_from") 843, Value.str (Str.ofString "/claim/cut.py") 844, Value.int 298 0, Value.int 2 0, Value.int 0 0, Value.int 0 0, Value.int 11 0, Value.ref 489, Value.bool true, Value.int 181 0, Value.ref 490, Value.none, Value.ref 491, Value.ref 492, Value.ref 493, Value.int 852 0, Value.int 298 0, Value.str (Str.ofString "/claim/cut.py") 853] }),
  (495, { cls := Value.type "function", data := Data.func { name := Str.ofString "add_nodes_from", qualname := Str.ofString "Graph.add_nodes_from", params := (fdM 21 13).1, body := .stmts (fdM 21 13).2.1, scope := (fdM 21 13).2.2, globals := 3, closure := [], defaults := Value.none, kwdefaults := Value.none, pyModule := Value.str (Str.ofString "networkx.classes.graph") 755, code := Value.ref 494 } }),
  (496, { cls := Value.type "tuple", data := Data.seq #[] }),
  (498, { cls := Value.type "tuple", data := Data.seq #[Value.str (Str.ofString "self") 858, Value.str (Str.ofString "n") 859] }),
  (499, { cls := Value.type "tuple", data := Data.seq #[] }),
  (501, { cls := Value.type "code", data := Data.fields #[Value.str (Str.ofString "remove_node") 855, Value.str (Str.ofString "Graph.remove_node") 856, Value.str (Str.ofString "/claim/cut.py") 857, Value.int 315 0, Value.int 2 0, Value.int 0 0, Value.int 0 0, Value.int 3 0, Value.ref 496, Value.bool true, Value.int 181 0, Value.ref 497, Value.none, Value.ref 498, Value.ref 499, Value.ref 500, Value.int 860 0, Value.int 315 0, Value.str (Str.ofString "/claim/cut.py") 861] }),
  (502, { cls := Value.type "function", data := Data.func { name := Str.ofString "remove_node", qualname := Str.ofString "Graph.remove_node", params := (fdM 21 14).1, body := .stmts (fdM 21 14).2.1, scope := (fdM 21 14).2.2, globals := 3, closure := [], defaults := Value.none, kwdefaults := Value.none, pyModule := Value.str (Str.ofString "networkx.classes.graph") 755, code := Value.ref 501 } }),
  (503, { cls := Value.type "tuple", data := Data.seq #[] }),
  (505, { cls := Value.type "tuple", data := Data.seq #[Value.str (Str.ofString "self") 866] }),
  (506, { cls := Value.type "tuple", data := Data.seq #[] }),
  (508, { cls := Value.type "code", data := Data.fields #[Value.str (Str.ofString "nodes") 863, Value.str (Str.ofString "Graph.nodes") 864, Value.str (Str.ofString "/claim/cut.py") 865, Value.int 318 0, Value.int 1 0, Value.int 0 0, Value.int 0 0, Value.int 3 0, Value.ref 503, Value.bool true, Value.int 181 0, Value.ref 504, Value.none, Value.ref 505, Value.ref 506, Value.ref 507, Value.int 867 0, Value.int 318 0, Value.str (Str.ofString "/claim/cut.py") 868] }),
  (509, { cls := Value.type "function", data := Data.func { name := Str.ofString "nodes", qualname := Str.ofString "Graph.nodes", params := (fdM 21 15).1, body := .stmts (fdM 21 15).2.1, scope := (fdM 21 15).2.2, globals := 3, closure := [], defaults := Value.none, kwdefaults := Value.none, pyModule := Value.str (Str.ofString "networkx.classes.graph") 755, code := Value.ref 508 } }),
  (510, { cls := Value.type "dict", data := Data.dict #[{ hash := PyData.keyHash P (Str.ofString "func"), key := Value.str (Str.ofString "func") 872, val := Value.ref 509 }, { hash := PyData.keyHash P (Str.ofString "attrname"), key := Value.str (Str.ofString "attrname") 874, val := Value.str (Str.ofString "nodes") 881 }, { hash := PyData.keyHash P (Str.ofString "__doc__"), key := Value.str (Str.ofString "__doc__") 877, val := Value.none }, { hash := PyData.keyHash P (Str.ofString "__module__"), key := Value.str (Str.ofString "__module__") 880, val := Value.str (Str.ofString "networkx.classes.graph") 755 }] 4 }),
  (511, { cls := Value.ref 423, dict := some 510 }),
  (513, { cls := Value.type "tuple", data := Data.seq #[] }),
  (515, { cls := Value.type "tuple", data := Data.seq #[Value.str (Str.ofString "self") 885] }),
  (516, { cls := Value.type "tuple", data := Data.seq #[] }),
  (518, { cls := Value.type "code", data := Data.fields #[Value.str (Str.ofString "number_of_nodes") 882, Value.str (Str.ofString "Graph.number_of_nodes") 883, Value.str (Str.ofString "/claim/cut.py") 884, Value.int 322 0, Value.int 1 0, Value.int 0 0, Value.int 0 0, Value.int 3 0, Value.ref 513, Value.bool true, Value.int 181 0, Value.ref 514, Value.none, Value.ref 515, Value.ref 516, Value.ref 517, Value.int 886 0, Value.int 322 0, Value.str (Str.ofString "/claim/cut.py") 887] }),
  (519, { cls := Value.type "function", data := Data.func { name := Str.ofString "number_of_nodes", qualname := Str.ofString "Graph.number_of_nodes", params := (fdM 21 16).1, body := .stmts (fdM 21 16).2.1, scope := (fdM 21 16).2.2, globals := 3, closure := [], defaults := Value.none, kwdefaults := Value.none, pyModule := Value.str (Str.ofString "networkx.classes.graph") 755, code := Value.ref 518 } }),
  (520, { cls := Value.type "tuple", data := Data.seq #[] }),
  (522, { cls := Value.type "tuple", data := Data.seq #[Value.str (Str.ofString "self") 892] }),
  (523, { cls := Value.type "tuple", data := Data.seq #[] }),
  (525, { cls := Value.type "code", data := Data.fields #[Value.str (Str.ofString "order") 889, Value.str (Str.ofString "Graph.order") 890, Value.str (Str.ofString "/claim/cut.py") 891, Value.int 325 0, Value.int 1 0, Value.int 0 0, Value.int 0 0, Value.int 3 0, Value.ref 520, Value.bool true, Value.int 181 0, Value.ref 521, Value.none, Value.ref 522, Value.ref 523, Value.ref 524, Value.int 893 0, Value.int 325 0, Value.str (Str.ofString "/claim/cut.py") 894] }),
  (526, { cls := Value.type "function", data := Data.func { name := Str.ofString "order", qualname := Str.ofString "Graph.order", params := (fdM 21 17).1, body := .stmts (fdM 21 17).2.1, scope := (fdM 21 17).2.2, globals := 3, closure := [], defaults := Value.none, kwdefaults := Value.none, pyModule := Value.str (Str.ofString "networkx.classes.graph") 755, code := Value.ref 525 } }),
  (527, { cls := Value.type "tuple", data := Data.seq #[] }),
  (529, { cls := Value.type "tuple", data := Data.seq #[Value.str (Str.ofString "self") 899, Value.str (Str.ofString "u_of_edge") 900, Value.str (Str.ofString "v_of_edge") 901, Value.str (Str.ofString "attr") 902] }),
  (530, { cls := Value.type "tuple", data := Data.seq #[] }),
  (532, { cls := Value.type "code", data := Data.fields #[Value.str (Str.ofString "add_edge") 896, Value.str (Str.ofString "Graph.add_edge") 897, Value.str (Str.ofString "/claim/cut.py") 898, Value.int 328 0, Value.int 3 0, Value.int 0 0, Value.int 0 0, Value.int 11 0, Value.ref 527, Value.bool true, Value.int 181 0, Value.ref 528, Value.none, Value.ref 529, Value.ref 530, Value.ref 531, Value.int 903 0, Value.int 328 0, Value.str (Str.ofString "/claim/cut.py") 904] }),
  (533, { cls := Value.type "function", data := Data.func { name := Str.ofString "add_edge", qualname := Str.ofString "Graph.add_edge", params := (fdM 21 18).1, body := .stmts (fdM 21 18).2.1, scope := (fdM 21 18).2.2, globals := 3, closure := [], defaults := Value.none, kwdefaults := Value.none, pyModule := Value.str (Str.ofString "networkx.classes.graph") 755, code := Value.ref 532 } }),
  (534, { cls := Value.type "tuple", data := Data.seq #[] }),
  (536, { cls := Value.type "tuple", data := Data.seq #[Value.str (Str.ofString "self") 909, Value.str (Str.ofString "ebunch_to_add") 910, Value.str (Str.ofString "attr") 911, Value.str (Str.ofString "e") 912, Value.str (Str.ofString "ne") 913, Value.str (Str.ofString "u") 914, Value.str (Str.ofString "v") 915, Value.str (Str.ofString "dd") 916, Value.str (Str.ofString "datadict") 917] }),
  (537, { cls := Value.type "tuple", data := Data.seq #[] }),
  (539, { cls := Value.type "code", data := Data.fields #[Value.str (Str.ofString "add_edges_from") 906, Value.str (Str.ofString "Graph.add_edges_from") 907, Value.str (Str.ofString "/claim/cut.py") 908, Value.int 331 0, Value.int 2 0, Value.int 0 0, Value.int 0 0, Value.int 11 0, Value.ref 534, Value.bool true, Value.int 181 0, Value.ref 535, Value.none, Value.ref 536, Value.ref 537, Value.ref 538, Value.int 918 0, Value.int 331 0, Value.str (Str.ofString "/claim/cut.py") 919] }),
  (540, { cls := Value.type "function", data := Data.func { name := Str.ofString "add_edges_from", qualname := Str.ofString "Graph.add_edges_from", params := (fdM 21 19).1, body := .stmts (fdM 21 19).2.1, scope := (fdM 21 19).2.2, globals := 3, closure := [], defaults := Value.none, kwdefaults := Value.none, pyModule := Value.str (Str.ofString "networkx.classes.graph") 755, code := Value.ref 539 } }),
  (541, { cls := Value.type "tuple", data := Data.seq #[] }),
  (543, { cls := Value.type "tuple", data := Data.seq #[Value.str (Str.ofString "self") 924, Value.str (Str.ofString "u") 925, Value.str (Str.ofString "v") 926] }),
  (544, { cls := Value.type "tuple", data := Data.seq #[] }),
  (546, { cls := Value.type "code", data := Data.fields #[Value.str (Str.ofString "has_edge") 921, Value.str (Str.ofString "Graph.has_edge") 922, Value.str (Str.ofString "/claim/cut.py") 923, Value.int 357 0, Value.int 3 0, Value.int 0 0, Value.int 0 0, Value.int 3 0, Value.ref 541, Value.bool true, Value.int 181 0, Value.ref 542, Value.none, Value.ref 543, Value.ref 544, Value.ref 545, Value.int 927 0, Value.int 357 0, Value.str (Str.ofString "/claim/cut.py") 928] }),
  (547, { cls := Value.type "function", data := Data.func { name := Str.ofString "has_edge", qualname := Str.ofString "Graph.has_edge", params := (fdM 21 20).1, body := .stmts (fdM 21 20).2.1, scope := (fdM 21 20).2.2, globals := 3, closure := [], defaults := Value.none, kwdefaults := Value.none, pyModule := Value.str (Str.ofString "networkx.classes.graph") 755, code := Value.ref 546 } }),
  (548, { cls := Value.type "tuple", data := Data.seq #[] }),
  (550, { cls := Value.type "tuple", data := Data.seq #[Value.str (Str.ofString "self") 933, Value.str (Str.ofString "n") 934, Value.str (Str.ofString "err") 935] }),
  (551, { cls := Value.type "tuple", data := Data.seq #[] }),
  (553, { cls := Value.type "code", data := Data.fields #[Value.str (Str.ofString "neighbors") 930, Value.str (Str.ofString "Graph.neighbors") 931, Value.str (Str.ofString "/claim/cut.py") 932, Value.int 360 0, Value.int 2 0, Value.int 0 0, Value.int 0 0, Value.int 3 0, Value.ref 548, Value.bool true, Value.int 181 0, Value.ref 549, Value.none, Value.ref 550, Value.ref 551, Value.ref 552, Value.int 936 0, Value.int 360 0, Value.str (Str.ofString "/claim/cut.py") 937] }),
  (554, { cls := Value.type "function", data := Data.func { name := Str.ofString "neighbors", qualname := Str.ofString "Graph.neighbors", params := (fdM 21 21).1, body := .stmts (fdM 21 21).2.1, scope := (fdM 21 21).2.2, globals := 3, closure := [], defaults := Value.none, kwdefaults := Value.none, pyModule := Value.str (Str.ofString "networkx.classes.graph") 755, code := Value.ref 553 } }),
  (555, { cls := Value.type "tuple", data := Data.seq #[] }),
  (557, { cls := Value.type "tuple", data := Data.seq #[Value.str (Str.ofString "self") 942] }),
  (558, { cls := Value.type "tuple", data := Data.seq #[] }),
  (560, { cls := Value.type "code", data := Data.fields #[Value.str (Str.ofString "edges") 939, Value.str (Str.ofString "Graph.edges") 940, Value.str (Str.ofString "/claim/cut.py") 941, Value.int 366 0, Value.int 1 0, Value.int 0 0, Value.int 0 0, Value.int 3 0, Value.ref 555, Value.bool true, Value.int 181 0, Value.ref 556, Value.none, Value.ref 557, Value.ref 558, Value.ref 559, Value.int 943 0, Value.int 366 0, Value.str (Str.ofString "/claim/cut.py") 944] }),
  (561, { cls := Value.type "function", data := Data.func { name := Str.ofString "edges", qualname := Str.ofString "Graph.edges", params := (fdM 21 22).1, body := .stmts (fdM 21 22).2.1, scope := (fdM 21 22).2.2, globals := 3, closure := [], defaults := Value.none, kwdefaults := Value.none, pyModule := Value.str (Str.ofString "networkx.classes.graph") 755, code := Value.ref 560 } }),
  (562, { cls := Value.type "dict", data := Data.dict #[{ hash := PyData.keyHash P (Str.ofString "func"), key := Value.str (Str.ofString "func") 948, val := Value.ref 561 }, { hash := PyData.keyHash P (Str.ofString "attrname"), key := Value.str (Str.ofString "attrname") 950, val := Value.str (Str.ofString "edges") 957 }, { hash := PyData.keyHash P (Str.ofString "__doc__"), key := Value.str (Str.ofString "__doc__") 953, val := Value.none }, { hash := PyData.keyHash P (Str.ofString "__module__"), key := Value.str (Str.ofString "__module__") 956, val := Value.str (Str.ofString "networkx.classes.graph") 755 }] 4 }),
  (563, { cls := Value.ref 423, dict := some 562 }),
  (565, { cls := Value.type "tuple", data := Data.seq #[Value.none] }),
  (566, { cls := Value.type "tuple", data := Data.seq #[] }),
  (568, { cls := Value.type "tuple", data := Data.seq #[Value.str (Str.ofString "self") 961, Value.str (Str.ofString "u") 962, Value.str (Str.ofString "v") 963, Value.str (Str.ofString "default") 964] }),
  (569, { cls := Value.type "tuple", data := Data.seq #[] }),
  (571, { cls := Value.type "code", data := Data.fields #[Value.str (Str.ofString "get_edge_data") 958, Value.str (Str.ofString "Graph.get_edge_data") 959, Value.str (Str.ofString "/claim/cut.py") 960, Value.int 370 0, Value.int 4 0, Value.int 0 0, Value.int 0 0, Value.int 3 0, Value.ref 566, Value.bool true, Value.int 181 0, Value.ref 567, Value.none, Value.ref 568, Value.ref 569, Value.ref 570, Value.int 965 0, Value.int 370 0, Value.str (Str.ofString "/claim/cut.py") 966] }),
  (572, { cls := Value.type "function", data := Data.func { name := Str.ofString "get_edge_data", qualname := Str.ofString "Graph.get_edge_data", params := (fdM 21 23).1, body := .stmts (fdM 21 23).2.1, scope := (fdM 21 23).2.2, globals := 3, closure := [], defaults := Value.ref 565, kwdefaults := Value.none, pyModule := Value.str (Str.ofString "networkx.classes.graph") 755, code := Value.ref 571 } }),
  (573, { cls := Value.type "tuple", data := Data.seq #[] }),
  (575, { cls := Value.type "tuple", data := Data.seq #[Value.str (Str.ofString "self") 971] }),
  (576, { cls := Value.type "tuple", data := Data.seq #[] }),
  (578, { cls := Value.type "code", data := Data.fields #[Value.str (Str.ofString "degree") 968, Value.str (Str.ofString "Graph.degree") 969, Value.str (Str.ofString "/claim/cut.py") 970, Value.int 373 0, Value.int 1 0, Value.int 0 0, Value.int 0 0, Value.int 3 0, Value.ref 573, Value.bool true, Value.int 181 0, Value.ref 574, Value.none, Value.ref 575, Value.ref 576, Value.ref 577, Value.int 972 0, Value.int 373 0, Value.str (Str.ofString "/claim/cut.py") 973] }),
  (579, { cls := Value.type "function", data := Data.func { name := Str.ofString "degree", qualname := Str.ofString "Graph.degree", params := (fdM 21 24).1, body := .stmts (fdM 21 24).2.1, scope := (fdM 21 24).2.2, globals := 3, closure := [], defaults := Value.none, kwdefaults := Value.none, pyModule := Value.str (Str.ofString "networkx.classes.graph") 755, code := Value.ref 578 } }),
  (580, { cls := Value.type "dict", data := Data.dict #[{ hash := PyData.keyHash P (Str.ofString "func"), key := Value.str (Str.ofString "func") 977, val := Value.ref 579 }, { hash := PyData.keyHash P (Str.ofString "attrname"), key := Value.str (Str.ofString "attrname") 979, val := Value.str (Str.ofString "degree") 986 }, { hash := PyData.keyHash P (Str.ofString "__doc__"), key := Value.str (Str.ofString "__doc__") 982, val := Value.none }, { hash := PyData.keyHash P (Str.ofString "__module__"), key := Value.str (Str.ofString "__module__") 985, val := Value.str (Str.ofString "networkx.classes.graph") 755 }] 4 }),
  (581, { cls := Value.ref 423, dict := some 580 }),
  (583, { cls := Value.type "tuple", data := Data.seq #[] }),
  (585, { cls := Value.type "tuple", data := Data.seq #[Value.str (Str.ofString "self") 990] }),
  (586, { cls := Value.type "tuple", data := Data.seq #[] }),
  (588, { cls := Value.type "code", data := Data.fields #[Value.str (Str.ofString "is_multigraph") 987, Value.str (Str.ofString "Graph.is_multigraph") 988, Value.str (Str.ofString "/claim/cut.py") 989, Value.int 377 0, Value.int 1 0, Value.int 0 0, Value.int 0 0, Value.int 3 0, Value.ref 583, Value.bool true, Value.int 181 0, Value.ref 584, Value.none, Value.ref 585, Value.ref 586, Value.ref 587, Value.int 991 0, Value.int 377 0, Value.str (Str.ofString "/claim/cut.py") 992] }),
  (589, { cls := Value.type "function", data := Data.func { name := Str.ofString "is_multigraph", qualname := Str.ofString "Graph.is_multigraph", params := (fdM 21 25).1, body := .stmts (fdM 21 25).2.1, scope := (fdM 21 25).2.2, globals := 3, closure := [], defaults := Value.none, kwdefaults := Value.none, pyModule := Value.str (Str.ofString "networkx.classes.graph") 755, code := Value.ref 588 } }),
  (590, { cls := Value.type "tuple", data := Data.seq #[] }),
  (592, { cls := Value.type "tuple", data := Data.seq #[Value.str (Str.ofString "self") 997] }),
  (593, { cls := Value.type "tuple", data := Data.seq #[] }),
  (595, { cls := Value.type "code", data := Data.fields #[Value.str (Str.ofString "is_directed") 994, Value.str (Str.ofString "Graph.is_directed") 995, Value.str (Str.ofString "/claim/cut.py") 996, Value.int 380 0, Value.int 1 0, Value.int 0 0, Value.int 0 0, Value.int 3 0, Value.ref 590, Value.bool true, Value.int 181 0, Value.ref 591, Value.none, Value.ref 592, Value.ref 593, Value.ref 594, Value.int 998 0, Value.int 380 0, Value.str (Str.ofString "/claim/cut.py") 999] }),
  (596, { cls := Value.type "function", data := Data.func { name := Str.ofString "is_directed", qualname := Str.ofString "Graph.is_directed", params := (fdM 21 26).1, body := .stmts (fdM 21 26).2.1, scope := (fdM 21 26).2.2, globals := 3, closure := [], defaults := Value.none, kwdefaults := Value.none, pyModule := Value.str (Str.ofString "networkx.classes.graph") 755, code := Value.ref 595 } }),
  (597, { cls := Value.type "tuple", data := Data.seq #[] }),
  (599, { cls := Value.type "tuple", data := Data.seq #[Value.str (Str.ofString "self") 1004] }),
  (600, { cls := Value.type "tuple", data := Data.seq #[] }),
  (602, { cls := Value.type "code", data := Data.fields #[Value.str (Str.ofString "fresh") 1001, Value.str (Str.ofString "Graph.fresh") 1002, Value.str (Str.ofString "/claim/cut.py") 1003, Value.int 383 0, Value.int 1 0, Value.int 0 0, Value.int 0 0, Value.int 3 0, Value.ref 597, Value.bool true, Value.int 181 0, Value.ref 598, Value.none, Value.ref 599, Value.ref 600, Value.ref 601, Value.int 1005 0, Value.int 383 0, Value.str (Str.ofString "/claim/cut.py") 1006] }),
  (603, { cls := Value.type "function", data := Data.func { name := Str.ofString "fresh", qualname := Str.ofString "Graph.fresh", params := (fdM 21 27).1, body := .stmts (fdM 21 27).2.1, scope := (fdM 21 27).2.2, globals := 3, closure := [], defaults := Value.none, kwdefaults := Value.none, pyModule := Value.str (Str.ofString "networkx.classes.graph") 755, code := Value.ref 602 } }),
  (604, { cls := Value.type "tuple", data := Data.seq #[Value.bool false] }),
  (605, { cls := Value.type "tuple", data := Data.seq #[] }),
  (607, { cls := Value.type "tuple", data := Data.seq #[Value.str (Str.ofString "self") 1011, Value.str (Str.ofString "as_view") 1012, Value.str (Str.ofString "G") 1013] }),
  (608, { cls := Value.type "tuple", data := Data.seq #[] }),
  (610, { cls := Value.type "code", data := Data.fields #[Value.str (Str.ofString "copy") 1008, Value.str (Str.ofString "Graph.copy") 1009, Value.str (Str.ofString "/claim/cut.py") 1010, Value.int 386 0, Value.int 2 0, Value.int 0 0, Value.int 0 0, Value.int 3 0, Value.ref 605, Value.bool true, Value.int 181 0, Value.ref 606, Value.none, Value.ref 607, Value.ref 608, Value.ref 609, Value.int 1014 0, Value.int 386 0, Value.str (Str.ofString "/claim/cut.py") 1015] }),
  (611, { cls := Value.type "function", data := Data.func { name := Str.ofString "copy", qualname := Str.ofString "Graph.copy", params := (fdM 21 28).1, body := .stmts (fdM 21 28).2.1, scope := (fdM 21 28).2.2, globals := 3, closure := [], defaults := Value.ref 604, kwdefaults := Value.none, pyModule := Value.str (Str.ofString "networkx.classes.graph") 755, code := Value.ref 610 } }),
  (612, { cls := Value.type "tuple", data := Data.seq #[Value.none] }),
  (613, { cls := Value.type "tuple", data := Data.seq #[] }),
  (615, { cls := Value.type "tuple", data := Data.seq #[Value.str (Str.ofString "self") 1020, Value.str (Str.ofString "weight") 1021] }),
  (616, { cls := Value.type "tuple", data := Data.seq #[] }),
  (618, { cls := Value.type "code", data := Data.fields #[Value.str (Str.ofString "size") 1017, Value.str (Str.ofString "Graph.size") 1018, Value.str (Str.ofString "/claim/cut.py") 1019, Value.int 393 0, Value.int 2 0, Value.int 0 0, Value.int 0 0, Value.int 3 0, Value.ref 613, Value.bool true, Value.int 181 0, Value.ref 614, Value.none, Value.ref 615, Value.ref 616, Value.ref 617, Value.int 1022 0, Value.int 393 0, Value.str (Str.ofString "/claim/cut.py") 1023] }),
  (619, { cls := Value.type "function", data := Data.func { name := Str.ofString "size", qualname := Str.ofString "Graph.size", params := (fdM 21 29).1, body := .stmts (fdM 21 29).2.1, scope := (fdM 21 29).2.2, globals := 3, closure := [], defaults := Value.ref 612, kwdefaults := Value.none, pyModule := Value.str (Str.ofString "networkx.classes.graph") 755, code := Value.ref 618 } }),
  (620, { cls := Value.type "tuple", data := Data.seq #[Value.none, Value.none] }),
  (621, { cls := Value.type "tuple", data := Data.seq #[] }),
  (623, { cls := Value.type "tuple", data := Data.seq #[Value.str (Str.ofString "self") 1028, Value.str (Str.ofString "u") 1029, Value.str (Str.ofString "v") 1030] }),
  (624, { cls := Value.type "tuple", data := Data.seq #[] }),
  (626, { cls := Value.type "code", data := Data.fields #[Value.str (Str.ofString "number_of_edges") 1025, Value.str (Str.ofString "Graph.number_of_edges") 1026, Value.str (Str.ofString "/claim/cut.py") 1027, Value.int 396 0, Value.int 3 0, Value.int 0 0, Value.int 0 0, Value.int 3 0, Value.ref 621, Value.bool true, Value.int 181 0, Value.ref 622, Value.none, Value.ref 623, Value.ref 624, Value.ref 625, Value.int 1031 0, Value.int 396 0, Value.str (Str.ofString "/claim/cut.py") 1032] }),
  (627, { cls := Value.type "function", data := Data.func { name := Str.ofString "number_of_edges", qualname := Str.ofString "Graph.number_of_edges", params := (fdM 21 30).1, body := .stmts (fdM 21 30).2.1, scope := (fdM 21 30).2.2, globals := 3, closure := [], defaults := Value.ref 620, kwdefaults := Value.none, pyModule := Value.str (Str.ofString "networkx.classes.graph") 755, code := Value.ref 626 } }),
  (628, { cls := Value.type "tuple", data := Data.seq #[Value.none] }),
  (629, { cls := Value.type "tuple", data := Data.seq #[] }),
  (631, { cls := Value.type "tuple", data := Data.seq #[Value.str (Str.ofString "self") 1037, Value.str (Str.ofString "nbunch") 1038] }),
  (632, { cls := Value.type "tuple", data := Data.seq #[] }),
  (634, { cls := Value.type "code", data := Data.fields #[Value.str (Str.ofString "nbunch_iter") 1034, Value.str (Str.ofString "Graph.nbunch_iter") 1035, Value.str (Str.ofString "/claim/cut.py") 1036, Value.int 399 0, Value.int 2 0, Value.int 0 0, Value.int 0 0, Value.int 3 0, Value.ref 629, Value.bool true, Value.int 181 0, Value.ref 630, Value.none, Value.ref 631, Value.ref 632, Value.ref 633, Value.int 1039 0, Value.int 399 0, Value.str (Str.ofString "/claim/cut.py") 1040] }),
  (635, { cls := Value.type "function", data := Data.func { name := Str.ofString "nbunch_iter", qualname := Str.ofString "Graph.nbunch_iter", params := (fdM 21 31).1, body := .stmts (fdM 21 31).2.1, scope := (fdM 21 31).2.2, globals := 3, closure := [], defaults := Value.ref 628, kwdefaults := Value.none, pyModule := Value.str (Str.ofString "networkx.classes.graph") 755, code := Value.ref 634 } }),
  (636, { cls := Value.type "tuple", data := Data.seq #[Value.str (Str.ofString "_adj") 1042, Value.str (Str.ofString "_node") 1043, Value.str (Str.ofString "graph") 1044] }),
  (637, { cls := Value.type "dict", data := Data.dict #[{ hash := PyData.keyHash P (Str.ofString "__module__"), key := Value.str (Str.ofString "__module__") 764, val := Value.str (Str.ofString "networkx.classes.graph") 755 }, { hash := PyData.keyHash P (Str.ofString "__firstlineno__"), key := Value.str (Str.ofString "__firstlineno__") 768, val := Value.int 260 767 }, { hash := PyData.keyHash P (Str.ofString "node_dict_factory"), key := Value.str (Str.ofString "node_dict_factory") 769, val := Value.type "dict" }, { hash := PyData.keyHash P (Str.ofString "node_attr_dict_factory"), key := Value.str (Str.ofString "node_attr_dict_factory") 770, val := Value.type "dict" }, { hash := PyData.keyHash P (Str.ofString "adjlist_outer_dict_factory"), key := Value.str (Str.ofString "adjlist_outer_dict_factory") 771, val := Value.type "dict" }, { hash := PyData.keyHash P (Str.ofString "adjlist_inner_dict_factory"), key := Value.str (Str.ofString "adjlist_inner_dict_factory") 772, val := Value.type "dict" }, { hash := PyData.keyHash P (Str.ofString "edge_attr_dict_factory"), key := Value.str (Str.ofString "edge_attr_dict_factory") 773, val := Value.type "dict" }, { hash := PyData.keyHash P (Str.ofString "graph_attr_dict_factory"), key := Value.str (Str.ofString "graph_attr_dict_factory") 774, val := Value.type "dict" }, { hash := PyData.keyHash P (Str.ofString "__init__"), key := Value.str (Str.ofString "__init__") 783, val := Value.ref 443 }, { hash := PyData.keyHash P (Str.ofString "adj"), key := Value.str (Str.ofString "adj") 802, val := Value.ref 452 }, { hash := PyData.keyHash P (Str.ofString "__iter__"), key := Value.str (Str.ofString "__iter__") 809, val := Value.ref 460 }, { hash := PyData.keyHash P (Str.ofString "__contains__"), key := Value.str (Str.ofString "__contains__") 817, val := Value.ref 467 }, { hash := PyData.keyHash P (Str.ofString "__len__"), key := Value.str (Str.ofString "__len__") 824, val := Value.ref 474 }, { hash := PyData.keyHash P (Str.ofString "__getitem__"), key := Value.str (Str.ofString "__getitem__") 832, val := Value.ref 481 }, { hash := PyData.keyHash P (Str.ofString "add_node"), key := Value.str (Str.ofString "add_node") 841, val := Value.ref 488 }, { hash := PyData.keyHash P (Str.ofString "add_nodes_from"), key := Value.str (Str.ofString "add_nodes_from") 854, val := Value.ref 495 }, { hash := PyData.keyHash P (Str.ofString "remove_node"), key := Value.str (Str.ofString "remove_node") 862, val := Value.ref 502 }, { hash := PyData.keyHash P (Str.ofString "nodes"), key := Value.str (Str.ofString "nodes") 881, val := Value.ref 511 }, { hash := PyData.keyHash P (Str.ofString "number_of_nodes"), key := Value.str (Str.ofString "number_of_nodes") 888, val := Value.ref 519 }, { hash := PyData.keyHash P (Str.ofString "order"), key := Value.str (Str.ofString "order") 895, val := Value.ref 526 }, { hash := PyData.keyHash P (Str.ofString "add_edge"), key := Value.str (Str.ofString "add_edge") 905, val := Value.ref 533 }, { hash := PyData.keyHash P (Str.ofString "add_edges_from"), key := Value.str (Str.ofString "add_edges_from") 920, val := Value.ref 540 }, { hash := PyData.keyHash P (Str.ofString "has_edge"), key := Value.str (Str.ofString "has_edge") 929, val := Value.ref 547 }, { hash := PyData.keyHash P (Str.ofString "neighbors"), key := Value.str (Str.ofString "neighbors") 938, val := Value.ref 554 }, { hash := PyData.keyHash P (Str.ofString "edges"), key := Value.str (Str.ofString "edges") 957, val := Value.ref 563 }, { hash := PyData.keyHash P (Str.ofString "get_edge_data"), key := Value.str (Str.ofString "get_edge_data") 967, val := Value.ref 572 }, { hash := PyData.keyHash P (Str.ofString "degree"), key := Value.str (Str.ofString "degree") 986, val := Value.ref 581 }, { hash := PyData.keyHash P (Str.ofString "is_multigraph"), key := Value.str (Str.ofString "is_multigraph") 993, val := Value.ref 589 }, { hash := PyData.keyHash P (Str.ofString "is_directed"), key := Value.str (Str.ofString "is_directed") 1000, val := Value.ref 596 }, { hash := PyData.keyHash P (Str.ofString "fresh"), key := Value.str (Str.ofString "fresh") 1007, val := Value.ref 603 }, { hash := PyData.keyHash P (Str.ofString "copy"), key := Value.str (Str.ofString "copy") 1016, val := Value.ref 611 }, { hash := PyData.keyHash P (Str.ofString "size"), key := Value.str (Str.ofString "size") 1024, val := Value.ref 619 }, { hash := PyData.keyHash P (Str.ofString "number_of_edges"), key := Value.str (Str.ofString "number_of_edges") 1033, val := Value.ref 627 }, { hash := PyData.keyHash P (Str.ofString "nbunch_iter"), key := Value.str (Str.ofString "nbunch_iter") 1041, val := Value.ref 635 }, { hash := PyData.keyHash P (Str.ofString "__static_attributes__"), key := Value.str (Str.ofString "__static_attributes__") 1045, val := Value.ref 636 }, { hash := PyData.keyHash P (Str.ofString "__dict__"), key := Value.str (Str.ofString "__dict__") 1047, val := Value.ref 639 }, { hash := PyData.keyHash P (Str.ofString "__weakref__"), key := Value.str (Str.ofString "__weakref__") 1049, val := Value.ref 640 }, { hash := PyData.keyHash P (Str.ofString "__doc__"), key := Value.str (Str.ofString "__doc__") 1050, val := Value.none }] 4 }),
  (638, { cls := Value.type "type", data := Data.cls { name := Str.ofString "Graph", bases := [Value.type "object"], mro := [Value.ref 638, Value.type "object"], ns := 637, qualname := Str.ofString "Graph", subclasses := [Value.ref 814] }, slots := #[none, none, some (Value.str (Str.ofString "Graph") 757), some (Value.str (Str.ofString "Graph") 765), some (Value.builtin "object.__new__"), some (Value.bool true)] }),
  (639, { cls := Value.type "getset_descriptor", data := Data.fields #[Value.str (Str.ofString "__dict__") 1046, Value.ref 638, Value.builtin "function.__dict__", Value.builtin "function.__dict__#set"] }),
  (640, { cls := Value.type "getset_descriptor", data := Data.fields #[Value.str (Str.ofString "__weakref__") 1048, Value.ref 638, Value.builtin "ExceptionGroup.__weakref__", Value.none] }),
  (647, { cls := Value.type "tuple", data := Data.seq #[Value.ref 638] }),
  (654, { cls := Value.type "tuple", data := Data.seq #[Value.none] }),
  (655, { cls := Value.type "tuple", data := Data.seq #[] }),
  (657, { cls := Value.type "tuple", data := Data.seq #[Value.str (Str.ofString "self") 1094, Value.str (Str.ofString "incoming_graph_data") 1095, Value.str (Str.ofString "attr") 1096] }),
  (658, { cls := Value.type "tuple", data := Data.seq #[] }),
  (660, { cls := Value.type "code", data := Data.fields #[Value.str (Str.ofString "__init__") 1091, Value.str (Str.ofString "DiGraph.__init__") 1092, Value.str (Str.ofString "/claim/cut.py") 1093, Value.int 404 0, Value.int 2 0, Value.int 0 0, Value.int 0 0, Value.int 11 0, Value.ref 655, Value.bool true, Value.int 181 0, Value.ref 656, Value.none, Value.ref 657, Value.ref 658, Value.ref 659, Value.int 1097 0, Value.int 404 0, Value.str (Str.ofString "/claim/cut.py") 1098] }),
  (661, { cls := Value.type "function", data := Data.func { name := Str.ofString "__init__", qualname := Str.ofString "DiGraph.__init__", params := (fdM 23 0).1, body := .stmts (fdM 23 0).2.1, scope := (fdM 23 0).2.2, globals := 3, closure := [], defaults := Value.ref 654, kwdefaults := Value.none, pyModule := Value.str (Str.ofString "networkx.classes.digraph") 1077, code := Value.ref 660 } }),
  (662, { cls := Value.type "tuple", data := Data.seq #[] }),
  (664, { cls := Value.type "tuple", data := Data.seq #[Value.str (Str.ofString "self") 1103] }),
  (665, { cls := Value.type "tuple", data := Data.seq #[] }),
  (667, { cls := Value.type "code", data := Data.fields #[Value.str (Str.ofString "adj") 1100, Value.str (Str.ofString "DiGraph.adj") 1101, Value.str (Str.ofString "/claim/cut.py") 1102, Value.int 414 0, Value.int 1 0, Value.int 0 0, Value.int 0 0, Value.int 3 0, Value.ref 662, Value.bool true, Value.int 181 0, Value.ref 663, Value.none, Value.ref 664, Value.ref 665, Value.ref 666, Value.int 1104 0, Value.int 414 0, Value.str (Str.ofString "/claim/cut.py") 1105] }),
  (668, { cls := Value.type "function", data := Data.func { name := Str.ofString "adj", qualname := Str.ofString "DiGraph.adj", params := (fdM 23 1).1, body := .stmts (fdM 23 1).2.1, scope := (fdM 23 1).2.2, globals := 3, closure := [], defaults := Value.none, kwdefaults := Value.none, pyModule := Value.str (Str.ofString "networkx.classes.digraph") 1077, code := Value.ref 667 } }),
  (669, { cls := Value.type "dict", data := Data.dict #[{ hash := PyData.keyHash P (Str.ofString "func"), key := Value.str (Str.ofString "func") 1109, val := Value.ref 668 }, { hash := PyData.keyHash P (Str.ofString "attrname"), key := Value.str (Str.ofString "attrname") 1111, val := Value.str (Str.ofString "adj") 1118 }, { hash := PyData.keyHash P (Str.ofString "__doc__"), key := Value.str (Str.ofString "__doc__") 1114, val := Value.none }, { hash := PyData.keyHash P (Str.ofString "__module__"), key := Value.str (Str.ofString "__module__") 1117, val := Value.str (Str.ofString "networkx.classes.digraph") 1077 }] 4 }),
  (670, { cls := Value.ref 423, dict := some 669 }),
  (672, { cls := Value.type "tuple", data := Data.seq #[] }),
  (674, { cls := Value.type "tuple", data := Data.seq #[Value.str (Str.ofString "self") 1122] }),
  (675, { cls := Value.type "tuple", data := Data.seq #[] }),
  (677, { cls := Value.type "code", data := Data.fields #[Value.str (Str.ofString "succ") 1119, Value.str (Str.ofString "DiGraph.succ") 1120, Value.str (Str.ofString "/claim/cut.py") 1121, Value.int 418 0, Value.int 1 0, Value.int 0 0, Value.int 0 0, Value.int 3 0, Value.ref 672, Value.bool true, Value.int 181 0, Value.ref 673, Value.none, Value.ref 674, Value.ref 675, Value.ref 676, Value.int 1123 0, Value.int 418 0, Value.str (Str.ofString "/claim/cut.py") 1124] }),
  (678, { cls := Value.type "function", data := Data.func { name := Str.ofString "succ", qualname := Str.ofString "DiGraph.succ", params := (fdM 23 2).1, body := .stmts (fdM 23 2).2.1, scope := (fdM 23 2).2.2, globals := 3, closure := [], defaults := Value.none, kwdefaults := Value.none, pyModule := Value.str (Str.ofString "networkx.classes.digraph") 1077, code := Value.ref 677 } }),
  (679, { cls := Value.type "dict", data := Data.dict #[{ hash := PyData.keyHash P (Str.ofString "func"), key := Value.str (Str.ofString "func") 1128, val := Value.ref 678 }, { hash := PyData.keyHash P (Str.ofString "attrname"), key := Value.str (Str.ofString "attrname") 1130, val := Value.str (Str.ofString "succ") 1137 }, { hash := PyData.keyHash P (Str.ofString "__doc__"), key := Value.str (Str.ofString "__doc__") 1133, val := Value.none }, { hash := PyData.keyHash P (Str.ofString "__module__"), key := Value.str (Str.ofString "__module__") 1136, val := Value.str (Str.ofString "networkx.classes.digraph") 1077 }] 4 }),
  (680, { cls := Value.ref 423, dict := some 679 }),
  (682, { cls := Value.type "tuple", data := Data.seq #[] }),
  (684, { cls := Value.type "tuple", data := Data.seq #[Value.str (Str.ofString "self") 1141] }),
  (685, { cls := Value.type "tuple", data := Data.seq #[] }),
  (687, { cls := Value.type "code", data := Data.fields #[Value.str (Str.ofString "pred") 1138, Value.str (Str.ofString "DiGraph.pred") 1139, Value.str (Str.ofString "/claim/cut.py") 1140, Value.int 422 0, Value.int 1 0, Value.int 0 0, Value.int 0 0, Value.int 3 0, Value.ref 682, Value.bool true, Value.int 181 0, Value.ref 683, Value.none, Value.ref 684, Value.ref 685, Value.ref 686, Value.int 1142 0, Value.int 422 0, Value.str (Str.ofString "/claim/cut.py") 1143] }),
  (688, { cls := Value.type "function", data := Data.func { name := Str.ofString "pred", qualname := Str.ofString "DiGraph.pred", params := (fdM 23 3).1, body := .stmts (fdM 23 3).2.1, scope := (fdM 23 3).2.2, globals := 3, closure := [], defaults := Value.none, kwdefaults := Value.none, pyModule := Value.str (Str.ofString "networkx.classes.digraph") 1077, code := Value.ref 687 } }),
  (689, { cls := Value.type "dict", data := Data.dict #[{ hash := PyData.keyHash P (Str.ofString "func"), key := Value.str (Str.ofString "func") 1147, val := Value.ref 688 }, { hash := PyData.keyHash P (Str.ofString "attrname"), key := Value.str (Str.ofString "attrname") 1149, val := Value.str (Str.ofString "pred") 1156 }, { hash := PyData.keyHash P (Str.ofString "__doc__"), key := Value.str (Str.ofString "__doc__") 1152, val := Value.none }, { hash := PyData.keyHash P (Str.ofString "__module__"), key := Value.str (Str.ofString "__module__") 1155, val := Value.str (Str.ofString "networkx.classes.digraph") 1077 }] 4 }),
  (690, { cls := Value.ref 423, dict := some 689 }),
  (692, { cls := Value.type "tuple", data := Data.seq #[] }),
  (694, { cls := Value.type "tuple", data := Data.seq #[Value.str (Str.ofString "self") 1160, Value.str (Str.ofString "node_for_adding") 1161, Value.str (Str.ofString "attr") 1162] }),
  (695, { cls := Value.type "tuple", data := Data.seq #[] }),
  (697, { cls := Value.type "code", data := Data.fields #[Value.str (Str.ofString "add_node") 1157, Value.str (Str.ofString "DiGraph.add_node") 1158, Value.str (Str.ofString "/claim/cut.py") 1159, Value.int 426 0, Value.int 2 0, Value.int 0 0, Value.int 0 0, Value.int 11 0, Value.ref 692, Value.bool true, Value.int 181 0, Value.ref 693, Value.none, Value.ref 694, Value.ref 695, Value.ref 696, Value.int 1163 0, Value.int 426 0, Value.str (Str.ofString "/claim/cut.py") 1164] }),
  (698, { cls := Value.type "function", data := Data.func { name := Str.ofString "add_node", qualname := Str.ofString "DiGraph.add_node", params := (fdM 23 4).1, body := .stmts (fdM 23 4).2.1, scope := (fdM 23 4).2.2, globals := 3, closure := [], defaults := Value.none, kwdefaults := Value.none, pyModule := Value.str (Str.ofString "networkx.classes.digraph") 1077, code := Value.ref 697 } }),
  (699, { cls := Value.type "tuple", data := Data.seq #[] }),
  (701, { cls := Value.type "tuple", data := Data.seq #[Value.str (Str.ofString "self") 1169, Value.str (Str.ofString "nodes_for_adding") 1170, Value.str (Str.ofString "attr") 1171, Value.str (Str.ofString "n") 1172, Value.str (Str.ofString "newnode") 1173, Value.str (Str.ofString "newdict") 1174, Value.str (Str.ofString "ndict") 1175] }),
  (702, { cls := Value.type "tuple", data := Data.seq #[] }),
  (704, { cls := Value.type "code", data := Data.fields #[Value.str (Str.ofString "add_nodes_from") 1166, Value.str (Str.ofString "DiGraph.add_nodes_from") 1167, Value.str (Str.ofString "/claim/cut.py") 1168, Value.int 429 0, Value.int 2 0, Value.int 0 0, Value.int 0 0, Value.int 11 0, Value.ref 699, Value.bool true, Value.int 181 0, Value.ref 700, Value.none, Value.ref 701, Value.ref 702, Value.ref 703, Value.int 1176 0, Value.int 429 0, Value.str (Str.ofString "/claim/cut.py") 1177] }),
  (705, { cls := Value.type "function", data := Data.func { name := Str.ofString "add_nodes_from", qualname := Str.ofString "DiGraph.add_nodes_from", params := (fdM 23 5).1, body := .stmts (fdM 23 5).2.1, scope := (fdM 23 5).2.2, globals := 3, closure := [], defaults := Value.none, kwdefaults := Value.none, pyModule := Value.str (Str.ofString "networkx.classes.digraph") 1077, code := Value.ref 704 } }),
  (706, { cls := Value.type "tuple", data := Data.seq #[] }),
  (708, { cls := Value.type "tuple", data := Data.seq #[Value.str (Str.ofString "self") 1182, Value.str (Str.ofString "n") 1183] }),
  (709, { cls := Value.type "tuple", data := Data.seq #[] }),
  (711, { cls := Value.type "code", data := Data.fields #[Value.str (Str.ofString "remove_node") 1179, Value.str (Str.ofString "DiGraph.remove_node") 1180, Value.str (Str.ofString "/claim/cut.py") 1181, Value.int 447 0, Value.int 2 0, Value.int 0 0, Value.int 0 0, Value.int 3 0, Value.ref 706, Value.bool true, Value.int 181 0, Value.ref 707, Value.none, Value.ref 708, Value.ref 709, Value.ref 710, Value.int 1184 0, Value.int 447 0, Value.str (Str.ofString "/claim/cut.py") 1185] }),
  (712, { cls := Value.type "function", data := Data.func { name := Str.ofString "remove_node", qualname := Str.ofString "DiGraph.remove_node", params := (fdM 23 6).1, body := .stmts (fdM 23 6).2.1, scope := (fdM 23 6).2.2, globals := 3, closure := [], defaults := Value.none, kwdefaults := Value.none, pyModule := Value.str (Str.ofString "networkx.classes.digraph") 1077, code := Value.ref 711 } }),
  (713, { cls := Value.type "tuple", data := Data.seq #[] }),
  (715, { cls := Value.type "tuple", data := Data.seq #[Value.str (Str.ofString "self") 1190, Value.str (Str.ofString "u_of_edge") 1191, Value.str (Str.ofString "v_of_edge") 1192, Value.str (Str.ofString "attr") 1193] }),
  (716, { cls := Value.type "tuple", data := Data.seq #[] }),
  (718, { cls := Value.type "code", data := Data.fields #[Value.str (Str.ofString "add_edge") 1187, Value.str (Str.ofString "DiGraph.add_edge") 1188, Value.str (Str.ofString "/claim/cut.py") 1189, Value.int 450 0, Value.int 3 0, Value.int 0 0, Value.int 0 0, Value.int 11 0, Value.ref 713, Value.bool true, Value.int 181 0, Value.ref 714, Value.none, Value.ref 715, Value.ref 716, Value.ref 717, Value.int 1194 0, Value.int 450 0, Value.str (Str.ofString "/claim/cut.py") 1195] }),
  (719, { cls := Value.type "function", data := Data.func { name := Str.ofString "add_edge", qualname := Str.ofString "DiGraph.add_edge", params := (fdM 23 7).1, body := .stmts (fdM 23 7).2.1, scope := (fdM 23 7).2.2, globals := 3, closure := [], defaults := Value.none, kwdefaults := Value.none, pyModule := Value.str (Str.ofString "networkx.classes.digraph") 1077, code := Value.ref 718 } }),
  (720, { cls := Value.type "tuple", data := Data.seq #[] }),
  (722, { cls := Value.type "tuple", data := Data.seq #[Value.str (Str.ofString "self") 1200, Value.str (Str.ofString "ebunch_to_add") 1201, Value.str (Str.ofString "attr") 1202, Value.str (Str.ofString "e") 1203, Value.str (Str.ofString "ne") 1204, Value.str (Str.ofString "u") 1205, Value.str (Str.ofString "v") 1206, Value.str (Str.ofString "dd") 1207, Value.str (Str.ofString "datadict") 1208] }),
  (723, { cls := Value.type "tuple", data := Data.seq #[] }),
  (725, { cls := Value.type "code", data := Data.fields #[Value.str (Str.ofString "add_edges_from") 1197, Value.str (Str.ofString "DiGraph.add_edges_from") 1198, Value.str (Str.ofString "/claim/cut.py") 1199, Value.int 453 0, Value.int 2 0, Value.int 0 0, Value.int 0 0, Value.int 11 0, Value.ref 720, Value.bool true, Value.int 181 0, Value.ref 721, Value.none, Value.ref 722, Value.ref 723, Value.ref 724, Value.int 1209 0, Value.int 453 0, Value.str (Str.ofString "/claim/cut.py") 1210] }),
  (726, { cls := Value.type "function", data := Data.func { name := Str.ofString "add_edges_from", qualname := Str.ofString "DiGraph.add_edges_from", params := (fdM 23 8).1, body := .stmts (fdM 23 8).2.1, scope := (fdM 23 8).2.2, globals := 3, closure := [], defaults := Value.none, kwdefaults := Value.none, pyModule := Value.str (Str.ofString "networkx.classes.digraph") 1077, code := Value.ref 725 } }),
  (727, { cls := Value.type "tuple", data := Data.seq #[] }),
  (729, { cls := Value.type "tuple", data := Data.seq #[Value.str (Str.ofString "self") 1215, Value.str (Str.ofString "n") 1216, Value.str (Str.ofString "err") 1217] }),
  (730, { cls := Value.type "tuple", data := Data.seq #[] }),
  (732, { cls := Value.type "code", data := Data.fields #[Value.str (Str.ofString "successors") 1212, Value.str (Str.ofString "DiGraph.successors") 1213, Value.str (Str.ofString "/claim/cut.py") 1214, Value.int 481 0, Value.int 2 0, Value.int 0 0, Value.int 0 0, Value.int 3 0, Value.ref 727, Value.bool true, Value.int 181 0, Value.ref 728, Value.none, Value.ref 729, Value.ref 730, Value.ref 731, Value.int 1218 0, Value.int 481 0, Value.str (Str.ofString "/claim/cut.py") 1219] }),
  (733, { cls := Value.type "function", data := Data.func { name := Str.ofString "successors", qualname := Str.ofString "DiGraph.successors", params := (fdM 23 9).1, body := .stmts (fdM 23 9).2.1, scope := (fdM 23 9).2.2, globals := 3, closure := [], defaults := Value.none, kwdefaults := Value.none, pyModule := Value.str (Str.ofString "networkx.classes.digraph") 1077, code := Value.ref 732 } }),
  (734, { cls := Value.type "tuple", data := Data.seq #[] }),
  (736, { cls := Value.type "tuple", data := Data.seq #[Value.str (Str.ofString "self") 1225, Value.str (Str.ofString "n") 1226, Value.str (Str.ofString "err") 1227] }),
  (737, { cls := Value.type "tuple", data := Data.seq #[] }),
  (739, { cls := Value.type "code", data := Data.fields #[Value.str (Str.ofString "predecessors") 1222, Value.str (Str.ofString "DiGraph.predecessors") 1223, Value.str (Str.ofString "/claim/cut.py") 1224, Value.int 488 0, Value.int 2 0, Value.int 0 0, Value.int 0 0, Value.int 3 0, Value.ref 734, Value.bool true, Value.int 181 0, Value.ref 735, Value.none, Value.ref 736, Value.ref 737, Value.ref 738, Value.int 1228 0, Value.int 488 0, Value.str (Str.ofString "/claim/cut.py") 1229] }),
  (740, { cls := Value.type "function", data := Data.func { name := Str.ofString "predecessors", qualname := Str.ofString "DiGraph.predecessors", params := (fdM 23 11).1, body := .stmts (fdM 23 11).2.1, scope := (fdM 23 11).2.2, globals := 3, closure := [], defaults := Value.none, kwdefaults := Value.none, pyModule := Value.str (Str.ofString "networkx.classes.digraph") 1077, code := Value.ref 739 } }),
  (741, { cls := Value.type "tuple", data := Data.seq #[] }),
  (743, { cls := Value.type "tuple", data := Data.seq #[Value.str (Str.ofString "self") 1234] }),
  (744, { cls := Value.type "tuple", data := Data.seq #[] }),
  (746, { cls := Value.type "code", data := Data.fields #[Value.str (Str.ofString "edges") 1231, Value.str (Str.ofString "DiGraph.edges") 1232, Value.str (Str.ofString "/claim/cut.py") 1233, Value.int 494 0, Value.int 1 0, Value.int 0 0, Value.int 0 0, Value.int 3 0, Value.ref 741, Value.bool true, Value.int 181 0, Value.ref 742, Value.none, Value.ref 743, Value.ref 744, Value.ref 745, Value.int 1235 0, Value.int 494 0, Value.str (Str.ofString "/claim/cut.py") 1236] }),
  (747, { cls := Value.type "function", data := Data.func { name := Str.ofString "edges", qualname := Str.ofString "DiGraph.edges", params := (fdM 23 12).1, body := .stmts (fdM 23 12).2.1, scope := (fdM 23 12).2.2, globals := 3, closure := [], defaults := Value.none, kwdefaults := Value.none, pyModule := Value.str (Str.ofString "networkx.classes.digraph") 1077, code := Value.ref 746 } }),
  (748, { cls := Value.type "dict", data := Data.dict #[{ hash := PyData.keyHash P (Str.ofString "func"), key := Value.str (Str.ofString "func") 1240, val := Value.ref 747 }, { hash := PyData.keyHash P (Str.ofString "attrname"), key := Value.str (Str.ofString "attrname") 1242, val := Value.str (Str.ofString "edges") 1249 }, { hash := PyData.keyHash P (Str.ofString "__doc__"), key := Value.str (Str.ofString "__doc__") 1245, val := Value.none }, { hash := PyData.keyHash P (Str.ofString "__module__"), key := Value.str (Str.ofString "__module__") 1248, val := Value.str (Str.ofString "networkx.classes.digraph") 1077 }] 4 }),
  (749, { cls := Value.ref 423, dict := some 748 }),
  (751, { cls := Value.type "tuple", data := Data.seq #[] }),
  (753, { cls := Value.type "tuple", data := Data.seq #[Value.str (Str.ofString "self") 1253] }),
  (754, { cls := Value.type "tuple", data := Data.seq #[] }),
  (756, { cls := Value.type "code", data := Data.fields #[Value.str (Str.ofString "out_edges") 1250, Value.str (Str.ofString "DiGraph.out_edges") 1251, Value.str (Str.ofString "/claim/cut.py") 1252, Value.int 498 0, Value.int 1 0, Value.int 0 0, Value.int 0 0, Value.int 3 0, Value.ref 751, Value.bool true, Value.int 181 0, Value.ref 752, Value.none, Value.ref 753, Value.ref 754, Value.ref 755, Value.int 1254 0, Value.int 498 0, Value.str (Str.ofString "/claim/cut.py") 1255] }),
  (757, { cls := Value.type "function", data := Data.func { name := Str.ofString "out_edges", qualname := Str.ofString "DiGraph.out_edges", params := (fdM 23 13).1, body := .stmts (fdM 23 13).2.1, scope := (fdM 23 13).2.2, globals := 3, closure := [], defaults := Value.none, kwdefaults := Value.none, pyModule := Value.str (Str.ofString "networkx.classes.digraph") 1077, code := Value.ref 756 } }),
  (758, { cls := Value.type "dict", data := Data.dict #[{ hash := PyData.keyHash P (Str.ofString "func"), key := Value.str (Str.ofString "func") 1259, val := Value.ref 757 }, { hash := PyData.keyHash P (Str.ofString "attrname"), key := Value.str (Str.ofString "attrname") 1261, val := Value.str (Str.ofString "out_edges") 1268 }, { hash := PyData.keyHash P (Str.ofString "__doc__"), key := Value.str (Str.ofString "__doc__") 1264, val := Value.none }, { hash := PyData.keyHash P (Str.ofString "__module__"), key := Value.str (Str.ofString "__module__") 1267, val := Value.str (Str.ofString "networkx.classes.digraph") 1077 }] 4 }),
  (759, { cls := Value.ref 423, dict := some 758 }),
  (761, { cls := Value.type "tuple", data := Data.seq #[] }),
  (763, { cls := Value.type "tuple", data := Data.seq #[Value.str (Str.ofString "self") 1272] }),
  (764, { cls := Value.type "tuple", data := Data.seq #[] }),
  (766, { cls := Value.type "code", data := Data.fields #[Value.str (Str.ofString "degree") 1269, Value.str (Str.ofString "DiGraph.degree") 1270, Value.str (Str.ofString "/claim/cut.py") 1271, Value.int 502 0, Value.int 1 0, Value.int 0 0, Value.int 0 0, Value.int 3 0, Value.ref 761, Value.bool true, Value.int 181 0, Value.ref 762, Value.none, Value.ref 763, Value.ref 764, Value.ref 765, Value.int 1273 0, Value.int 502 0, Value.str (Str.ofString "/claim/cut.py") 1274] }),
  (767, { cls := Value.type "function", data := Data.func { name := Str.ofString "degree", qualname := Str.ofString "DiGraph.degree", params := (fdM 23 14).1, body := .stmts (fdM 23 14).2.1, scope := (fdM 23 14).2.2, globals := 3, closure := [], defaults := Value.none, kwdefaults := Value.none, pyModule := Value.str (Str.ofString "networkx.classes.digraph") 1077, code := Value.ref 766 } }),
  (768, { cls := Value.type "dict", data := Data.dict #[{ hash := PyData.keyHash P (Str.ofString "func"), key := Value.str (Str.ofString "func") 1278, val := Value.ref 767 }, { hash := PyData.keyHash P (Str.ofString "attrname"), key := Value.str (Str.ofString "attrname") 1280, val := Value.str (Str.ofString "degree") 1287 }, { hash := PyData.keyHash P (Str.ofString "__doc__"), key := Value.str (Str.ofString "__doc__") 1283, val := Value.none }, { hash := PyData.keyHash P (Str.ofString "__module__"), key := Value.str (Str.ofString "__module__") 1286, val := Value.str (Str.ofString "networkx.classes.digraph") 1077 }] 4 }),
  (769, { cls := Value.ref 423, dict := some 768 }),
  (771, { cls := Value.type "tuple", data := Data.seq #[] }),
  (773, { cls := Value.type "tuple", data := Data.seq #[Value.str (Str.ofString "self") 1291] }),
  (774, { cls := Value.type "tuple", data := Data.seq #[] }),
  (776, { cls := Value.type "code", data := Data.fields #[Value.str (Str.ofString "in_degree") 1288, Value.str (Str.ofString "DiGraph.in_degree") 1289, Value.str (Str.ofString "/claim/cut.py") 1290, Value.int 506 0, Value.int 1 0, Value.int 0 0, Value.int 0 0, Value.int 3 0, Value.ref 771, Value.bool true, Value.int 181 0, Value.ref 772, Value.none, Value.ref 773, Value.ref 774, Value.ref 775, Value.int 1292 0, Value.int 506 0, Value.str (Str.ofString "/claim/cut.py") 1293] }),
  (777, { cls := Value.type "function", data := Data.func { name := Str.ofString "in_degree", qualname := Str.ofString "DiGraph.in_degree", params := (fdM 23 15).1, body := .stmts (fdM 23 15).2.1, scope := (fdM 23 15).2.2, globals := 3, closure := [], defaults := Value.none, kwdefaults := Value.none, pyModule := Value.str (Str.ofString "networkx.classes.digraph") 1077, code := Value.ref 776 } }),
  (778, { cls := Value.type "dict", data := Data.dict #[{ hash := PyData.keyHash P (Str.ofString "func"), key := Value.str (Str.ofString "func") 1297, val := Value.ref 777 }, { hash := PyData.keyHash P (Str.ofString "attrname"), key := Value.str (Str.ofString "attrname") 1299, val := Value.str (Str.ofString "in_degree") 1306 }, { hash := PyData.keyHash P (Str.ofString "__doc__"), key := Value.str (Str.ofString "__doc__") 1302, val := Value.none }, { hash := PyData.keyHash P (Str.ofString "__module__"), key := Value.str (Str.ofString "__module__") 1305, val := Value.str (Str.ofString "networkx.classes.digraph") 1077 }] 4 }),
  (779, { cls := Value.ref 423, dict := some 778 }),
  (781, { cls := Value.type "tuple", data := Data.seq #[] }),
  (783, { cls := Value.type "tuple", data := Data.seq #[Value.str (Str.ofString "self") 1310] }),
  (784, { cls := Value.type "tuple", data := Data.seq #[] }),
  (786, { cls := Value.type "code", data := Data.fields #[Value.str (Str.ofString "out_degree") 1307, Value.str (Str.ofString "DiGraph.out_degree") 1308, Value.str (Str.ofString "/claim/cut.py") 1309, Value.int 510 0, Value.int 1 0, Value.int 0 0, Value.int 0 0, Value.int 3 0, Value.ref 781, Value.bool true, Value.int 181 0, Value.ref 782, Value.none, Value.ref 783, Value.ref 784, Value.ref 785, Value.int 1311 0, Value.int 510 0, Value.str (Str.ofString "/claim/cut.py") 1312] }),
  (787, { cls := Value.type "function", data := Data.func { name := Str.ofString "out_degree", qualname := Str.ofString "DiGraph.out_degree", params := (fdM 23 16).1, body := .stmts (fdM 23 16).2.1, scope := (fdM 23 16).2.2, globals := 3, closure := [], defaults := Value.none, kwdefaults := Value.none, pyModule := Value.str (Str.ofString "networkx.classes.digraph") 1077, code := Value.ref 786 } }),
  (788, { cls := Value.type "dict", data := Data.dict #[{ hash := PyData.keyHash P (Str.ofString "func"), key := Value.str (Str.ofString "func") 1316, val := Value.ref 787 }, { hash := PyData.keyHash P (Str.ofString "attrname"), key := Value.str (Str.ofString "attrname") 1318, val := Value.str (Str.ofString "out_degree") 1325 }, { hash := PyData.keyHash P (Str.ofString "__doc__"), key := Value.str (Str.ofString "__doc__") 1321, val := Value.none }, { hash := PyData.keyHash P (Str.ofString "__module__"), key := Value.str (Str.ofString "__module__") 1324, val := Value.str (Str.ofString "networkx.classes.digraph") 1077 }] 4 }),
  (789, { cls := Value.ref 423, dict := some 788 }),
  (791, { cls := Value.type "tuple", data := Data.seq #[] }),
  (793, { cls := Value.type "tuple", data := Data.seq #[Value.str (Str.ofString "self") 1329] }),
  (794, { cls := Value.type "tuple", data := Data.seq #[] }),
  (796, { cls := Value.type "code", data := Data.fields #[Value.str (Str.ofString "is_multigraph") 1326, Value.str (Str.ofString "DiGraph.is_multigraph") 1327, Value.str (Str.ofString "/claim/cut.py") 1328, Value.int 514 0, Value.int 1 0, Value.int 0 0, Value.int 0 0, Value.int 3 0, Value.ref 791, Value.bool true, Value.int 181 0, Value.ref 792, Value.none, Value.ref 793, Value.ref 794, Value.ref 795, Value.int 1330 0, Value.int 514 0, Value.str (Str.ofString "/claim/cut.py") 1331] }),
  (797, { cls := Value.type "function", data := Data.func { name := Str.ofString "is_multigraph", qualname := Str.ofString "DiGraph.is_multigraph", params := (fdM 23 17).1, body := .stmts (fdM 23 17).2.1, scope := (fdM 23 17).2.2, globals := 3, closure := [], defaults := Value.none, kwdefaults := Value.none, pyModule := Value.str (Str.ofString "networkx.classes.digraph") 1077, code := Value.ref 796 } }),
  (798, { cls := Value.type "tuple", data := Data.seq #[] }),
  (800, { cls := Value.type "tuple", data := Data.seq #[Value.str (Str.ofString "self") 1336] }),
  (801, { cls := Value.type "tuple", data := Data.seq #[] }),
  (803, { cls := Value.type "code", data := Data.fields #[Value.str (Str.ofString "is_directed") 1333, Value.str (Str.ofString "DiGraph.is_directed") 1334, Value.str (Str.ofString "/claim/cut.py") 1335, Value.int 517 0, Value.int 1 0, Value.int 0 0, Value.int 0 0, Value.int 3 0, Value.ref 798, Value.bool true, Value.int 181 0, Value.ref 799, Value.none, Value.ref 800, Value.ref 801, Value.ref 802, Value.int 1337 0, Value.int 517 0, Value.str (Str.ofString "/claim/cut.py") 1338] }),
  (804, { cls := Value.type "function", data := Data.func { name := Str.ofString "is_directed", qualname := Str.ofString "DiGraph.is_directed", params := (fdM 23 18).1, body := .stmts (fdM 23 18).2.1, scope := (fdM 23 18).2.2, globals := 3, closure := [], defaults := Value.none, kwdefaults := Value.none, pyModule := Value.str (Str.ofString "networkx.classes.digraph") 1077, code := Value.ref 803 } }),
  (805, { cls := Value.type "tuple", data := Data.seq #[] }),
  (807, { cls := Value.type "tuple", data := Data.seq #[Value.str (Str.ofString "self") 1343] }),
  (808, { cls := Value.type "tuple", data := Data.seq #[] }),
  (810, { cls := Value.type "code", data := Data.fields #[Value.str (Str.ofString "fresh") 1340, Value.str (Str.ofString "DiGraph.fresh") 1341, Value.str (Str.ofString "/claim/cut.py") 1342, Value.int 520 0, Value.int 1 0, Value.int 0 0, Value.int 0 0, Value.int 3 0, Value.ref 805, Value.bool true, Value.int 181 0, Value.ref 806, Value.none, Value.ref 807, Value.ref 808, Value.ref 809, Value.int 1344 0, Value.int 520 0, Value.str (Str.ofString "/claim/cut.py") 1345] }),
  (811, { cls := Value.type "function", data := Data.func { name := Str.ofString "fresh", qualname := Str.ofString "DiGraph.fresh", params := (fdM 23 19).1, body := .stmts (fdM 23 19).2.1, scope := (fdM 23 19).2.2, globals := 3, closure := [], defaults := Value.none, kwdefaults := Value.none, pyModule := Value.str (Str.ofString "networkx.classes.digraph") 1077, code := Value.ref 810 } }),
  (812, { cls := Value.type "tuple", data := Data.seq #[Value.str (Str.ofString "_adj") 1347, Value.str (Str.ofString "_node") 1348, Value.str (Str.ofString "_pred") 1349, Value.str (Str.ofString "_succ") 1350, Value.str (Str.ofString "graph") 1351] }),
  (813, { cls := Value.type "dict", data := Data.dict #[{ hash := PyData.keyHash P (Str.ofString "__module__"), key := Value.str (Str.ofString "__module__") 1086, val := Value.str (Str.ofString "networkx.classes.digraph") 1077 }, { hash := PyData.keyHash P (Str.ofString "__firstlineno__"), key := Value.str (Str.ofString "__firstlineno__") 1090, val := Value.int 402 1089 }, { hash := PyData.keyHash P (Str.ofString "__init__"), key := Value.str (Str.ofString "__init__") 1099, val := Value.ref 661 }, { hash := PyData.keyHash P (Str.ofString "adj"), key := Value.str (Str.ofString "adj") 1118, val := Value.ref 670 }, { hash := PyData.keyHash P (Str.ofString "succ"), key := Value.str (Str.ofString "succ") 1137, val := Value.ref 680 }, { hash := PyData.keyHash P (Str.ofString "pred"), key := Value.str (Str.ofString "pred") 1156, val := Value.ref 690 }, { hash := PyData.keyHash P (Str.ofString "add_node"), key := Value.str (Str.ofString "add_node") 1165, val := Value.ref 698 }, { hash := PyData.keyHash P (Str.ofString "add_nodes_from"), key := Value.str (Str.ofString "add_nodes_from") 1178, val := Value.ref 705 }, { hash := PyData.keyHash P (Str.ofString "remove_node"), key := Value.str (Str.ofString "remove_node") 1186, val := Value.ref 712 }, { hash := PyData.keyHash P (Str.ofString "add_edge"), key := Value.str (Str.ofString "add_edge") 1196, val := Value.ref 719 }, { hash := PyData.keyHash P (Str.ofString "add_edges_from"), key := Value.str (Str.ofString "add_edges_from") 1211, val := Value.ref 726 }, { hash := PyData.keyHash P (Str.ofString "successors"), key := Value.str (Str.ofString "successors") 1220, val := Value.ref 733 }, { hash := PyData.keyHash P (Str.ofString "neighbors"), key := Value.str (Str.ofString "neighbors") 1221, val := Value.ref 733 }, { hash := PyData.keyHash P (Str.ofString "predecessors"), key := Value.str (Str.ofString "predecessors") 1230, val := Value.ref 740 }, { hash := PyData.keyHash P (Str.ofString "edges"), key := Value.str (Str.ofString "edges") 1249, val := Value.ref 749 }, { hash := PyData.keyHash P (Str.ofString "out_edges"), key := Value.str (Str.ofString "out_edges") 1268, val := Value.ref 759 }, { hash := PyData.keyHash P (Str.ofString "degree"), key := Value.str (Str.ofString "degree") 1287, val := Value.ref 769 }, { hash := PyData.keyHash P (Str.ofString "in_degree"), key := Value.str (Str.ofString "in_degree") 1306, val := Value.ref 779 }, { hash := PyData.keyHash P (Str.ofString "out_degree"), key := Value.str (Str.ofString "out_degree") 1325, val := Value.ref 789 }, { hash := PyData.keyHash P (Str.ofString "is_multigraph"), key := Value.str (Str.ofString "is_multigraph") 1332, val := Value.ref 797 }, { hash := PyData.keyHash P (Str.ofString "is_directed"), key := Value.str (Str.ofString "is_directed") 1339, val := Value.ref 804 }, { hash := PyData.keyHash P (Str.ofString "fresh"), key := Value.str (Str.ofString "fresh") 1346, val := Value.ref 811 }, { hash := PyData.keyHash P (Str.ofString "__static_attributes__"), key := Value.str (Str.ofString "__static_attributes__") 1352, val := Value.ref 812 }, { hash := PyData.keyHash P (Str.ofString "__doc__"), key := Value.str (Str.ofString "__doc__") 1353, val := Value.none }] 2 }),
  (814, { cls := Value.type "type", data := Data.cls { name := Str.ofString "DiGraph", bases := [Value.ref 638], mro := [Value.ref 814, Value.ref 638, Value.type "object"], ns := 813, qualname := Str.ofString "DiGraph" }, slots := #[some (Value.ref 647), none, some (Value.str (Str.ofString "DiGraph") 1079), some (Value.str (Str.ofString "DiGraph") 1087), some (Value.builtin "object.__new__"), some (Value.bool true)] }),
  (825, { cls := Value.type "tuple", data := Data.seq #[] }),
  (828, { cls := Value.type "code", data := Data.fields #[Value.str (Str.ofString "_law_numbers") 1406, Value.str (Str.ofString "_law_numbers") 1407, Value.str (Str.ofString "/claim/cut.py") 1408, Value.int 523 0, Value.int 2 0, Value.int 0 0, Value.int 0 0, Value.int 3 0, Value.ref 825, Value.bool true, Value.int 181 0, Value.ref 826, Value.none, Value.none, Value.none, Value.ref 827, Value.int 1409 0, Value.int 523 0, Value.str (Str.ofString "/claim/cut.py") 1410] }),
  (829, { cls := Value.type "function", data := Data.func { name := Str.ofString "_law_numbers", qualname := Str.ofString "_law_numbers", params := (fdT 25).1, body := .stmts (fdT 25).2.1, scope := (fdT 25).2.2, globals := 3, closure := [], defaults := Value.none, kwdefaults := Value.none, pyModule := Value.str (Str.ofString "law_aw6023_01") 1404, code := Value.ref 828 } }),
  (830, { cls := Value.type "tuple", data := Data.seq #[] }),
  (833, { cls := Value.type "code", data := Data.fields #[Value.str (Str.ofString "_law_table") 1412, Value.str (Str.ofString "_law_table") 1413, Value.str (Str.ofString "/claim/cut.py") 1414, Value.int 532 0, Value.int 1 0, Value.int 0 0, Value.int 0 0, Value.int 3 0, Value.ref 830, Value.bool true, Value.int 181 0, Value.ref 831, Value.none, Value.none, Value.none, Value.ref 832, Value.int 1415 0, Value.int 532 0, Value.str (Str.ofString "/claim/cut.py") 1416] }),
  (834, { cls := Value.type "function", data := Data.func { name := Str.ofString "_law_table", qualname := Str.ofString "_law_table", params := (fdT 26).1, body := .stmts (fdT 26).2.1, scope := (fdT 26).2.2, globals := 3, closure := [], defaults := Value.none, kwdefaults := Value.none, pyModule := Value.str (Str.ofString "law_aw6023_01") 1404, code := Value.ref 833 } }),
  (835, { cls := Value.type "tuple", data := Data.seq #[] }),
  (838, { cls := Value.type "code", data := Data.fields #[Value.str (Str.ofString "law") 1418, Value.str (Str.ofString "law") 1419, Value.str (Str.ofString "/claim/cut.py") 1420, Value.int 541 0, Value.int 1 0, Value.int 0 0, Value.int 0 0, Value.int 3 0, Value.ref 835, Value.bool true, Value.int 181 0, Value.ref 836, Value.none, Value.none, Value.none, Value.ref 837, Value.int 1421 0, Value.int 541 0, Value.str (Str.ofString "/claim/cut.py") 1422] }),
  (839, { cls := Value.type "function", data := Data.func { name := Str.ofString "law", qualname := Str.ofString "law", params := (fdT 27).1, body := .stmts (fdT 27).2.1, scope := (fdT 27).2.2, globals := 3, closure := [], defaults := Value.none, kwdefaults := Value.none, pyModule := Value.str (Str.ofString "law_aw6023_01") 1404, code := Value.ref 838 } })]
noncomputable def kx (P : Params) : Frag := kl P
def kAs : List Addr := [2, 3, 15, 17, 18, 20, 21, 22, 29, 30, 31, 32, 35, 42, 43, 44, 47, 54, 55, 56, 59, 60, 62, 63, 65, 66, 74, 75, 77, 78, 80, 81, 82, 84, 85, 87, 88, 89, 91, 92, 94, 95, 96, 98, 99, 101, 102, 103, 105, 106, 108, 109, 110, 112, 113, 115, 116, 117, 119, 120, 121, 124, 131, 132, 134, 135, 137, 138, 139, 141, 142, 145, 146, 148, 149, 151, 152, 160, 161, 163, 164, 166, 167, 168, 170, 171, 173, 174, 175, 177, 178, 180, 181, 182, 184, 185, 187, 188, 189, 191, 192, 194, 195, 196, 197, 199, 200, 202, 203, 204, 206, 207, 208, 218, 219, 220, 221, 224, 225, 226, 228, 229, 231, 232, 233, 235, 236, 238, 239, 240, 242, 243, 245, 246, 247, 249, 250, 251, 252, 253, 254, 255, 256, 257, 260, 267, 268, 270, 271, 273, 274, 275, 277, 278, 280, 281, 282, 284, 285, 287, 288, 289, 291, 292, 302, 303, 305, 306, 308, 309, 310, 312, 313, 315, 316, 317, 319, 320, 322, 323, 324, 326, 327, 329, 330, 331, 332, 333, 335, 336, 338, 339, 340, 342, 343, 344, 345, 346, 349, 356, 357, 359, 360, 362, 363, 364, 366, 367, 369, 370, 371, 373, 374, 376, 377, 378, 380, 381, 384, 392, 394, 395, 397, 398, 399, 401, 402, 404, 405, 406, 407, 409, 410, 412, 413, 414, 416, 417, 419, 420, 421, 422, 423, 424, 425, 426, 436, 437, 439, 440, 442, 443, 444, 446, 447, 449, 450, 451, 452, 454, 456, 457, 459, 460, 461, 463, 464, 466, 467, 468, 470, 471, 473, 474, 475, 477, 478, 480, 481, 482, 484, 485, 487, 488, 489, 491, 492, 494, 495, 496, 498, 499, 501, 502, 503, 505, 506, 508, 509, 510, 511, 513, 515, 516, 518, 519, 520, 522, 523, 525, 526, 527, 529, 530, 532, 533, 534, 536, 537, 539, 540, 541, 543, 544, 546, 547, 548, 550, 551, 553, 554, 555, 557, 558, 560, 561, 562, 563, 565, 566, 568, 569, 571, 572, 573, 575, 576, 578, 579, 580, 581, 583, 585, 586, 588, 589, 590, 592, 593, 595, 596, 597, 599, 600, 602, 603, 604, 605, 607, 608, 610, 611, 612, 613, 615, 616, 618, 619, 620, 621, 623, 624, 626, 627, 628, 629, 631, 632, 634, 635, 636, 637, 638, 639, 640, 647, 654, 655, 657, 658, 660, 661, 662, 664, 665, 667, 668, 669, 670, 672, 674, 675, 677, 678, 679, 680, 682, 684, 685, 687, 688, 689, 690, 692, 694, 695, 697, 698, 699, 701, 702, 704, 705, 706, 708, 709, 711, 712, 713, 715, 716, 718, 719, 720, 722, 723, 725, 726, 727, 729, 730, 732, 733, 734, 736, 737, 739, 740, 741, 743, 744, 746, 747, 748, 749, 751, 753, 754, 756, 757, 758, 759, 761, 763, 764, 766, 767, 768, 769, 771, 773, 774, 776, 777, 778, 779, 781, 783, 784, 786, 787, 788, 789, 791, 793, 794, 796, 797, 798, 800, 801, 803, 804, 805, 807, 808, 810, 811, 812, 813, 814, 825, 828, 829, 830, 833, 834, 835, 838, 839]
theorem kAs_eq : ∀ P, kAs = (kx P).map (·.1) := fun P => rfl
end Mine
end

-- TopE
section
open PySem PySem.W PyProof.Rows PySem.Calls
set_option Elab.async false
set_option maxRecDepth 100000
set_option maxHeartbeats 0
set_option linter.unusedVariables false
namespace Mine
/-- the statements that the head looks at -/
noncomputable def vw : Program := view PySem.Challenge.pw_aw6023_01 [0, 2, 3, 4, 8, 9, 12, 13, 14, 15, 16, 18, 19, 21, 23, 25, 26, 27]
def looseL : List Str := [Str.ofString "predecessor", Str.ofString "AtlasView", Str.ofString "AdjacencyView", Str.ofString "_nbunch_iter", Str.ofString "NodeView", Str.ofString "OutEdgeDataView", Str.ofString "EdgeDataView", Str.ofString "OutEdgeView", Str.ofString "EdgeView", Str.ofString "_NOT_FOUND", Str.ofString "cached_property", Str.ofString "Graph", Str.ofString "DiGraph"]
noncomputable def xtL (s : Shared) : Bool := xlAt vw [] s && recOk (RowW.records PySem.Challenge.rw_aw6023_01.row.toRowW) s
/-- what is asked of the state that the top leaves -/
noncomputable def asked (w : World) (r : SharedT) :=
  (staticsOk (importedModules PySem.Challenge.pw_aw6023_01.main.body) (boot_heap w.params) r.abs.heap && namesBound PySem.Challenge.pw_aw6023_01 r.abs.heap && gensDone r.abs && laidKept (boot_heap w.params) r.abs.heap,
    openSeen vw looseL (importedModules PySem.Challenge.pw_aw6023_01.main.body) xtL true r.abs, kAs.map (SharedT_get r))
noncomputable def endT (w : World) (os : OsState) := (topRunT treeTable PySem.Challenge.pw_aw6023_01 w (boot_heap w.params).objs.size ((boot_heap w.params).nsMap mainGlobals "__annotations__") 9400 (st0 w os) (topStub PySem.Challenge.pw_aw6023_01)).map fun r => asked w r
noncomputable def goodT (w : World) := some (true, openGood vw looseL, (kl w.params).map fun p => some p.2)
lay_quick Mine.endT Mine.goodT
-- the twins that the kit's command has laid for the two: each equal to its own (te..), quicker for the kernel
theorem chk : ∀ w, (fun os => PySem.W.Fast.tw8377185513855328992 w os) = fun _ => PySem.W.Fast.tw15373350099974320332 w := fun w => by kernel_rfl
theorem endT_chk (w : World) (os : OsState) : endT w os = goodT w := by
  rw [PySem.W.Fast.te8377185513855328992, PySem.W.Fast.te15373350099974320332]
  exact congrFun (chk w) os
end Mine
end

-- TopF
section
open PySem PySem.W PyProof.Rows PySem.Calls
set_option Elab.async false
set_option maxRecDepth 100000
set_option maxHeartbeats 0
set_option linter.unusedVariables false
namespace Mine
theorem pw_opening : opening PySem.Challenge.pw_aw6023_01 = plainProg PySem.Challenge.pw_aw6023_01.main.scope.names := rfl
theorem pw_fence : ∀ s, fenceModules? PySem.Challenge.pw_aw6023_01 s = some s := fun s => rfl
theorem boot_ns : ∀ w : World, ((boot_heap w.params).isNs mainGlobals && (#[] : Array GenState).size == 0) = true := fun w => by kernel_rfl
theorem asked_parts {w : World} {r : SharedT} {g : _} {k : _} (h : asked w r = (true, g, k)) : (staticsOk (importedModules PySem.Challenge.pw_aw6023_01.main.body) (boot_heap w.params) r.abs.heap && namesBound PySem.Challenge.pw_aw6023_01 r.abs.heap && gensDone r.abs && laidKept (boot_heap w.params) r.abs.heap) = true ∧
    openSeen vw looseL (importedModules PySem.Challenge.pw_aw6023_01.main.body) xtL true r.abs = g ∧ kAs.map (SharedT_get r) = k :=
  ⟨congrArg (fun z => z.1) h, congrArg (fun z => z.2.1) h, congrArg (fun z => z.2.2) h⟩
theorem kept_all {r : SharedT} {P : Params} (h : kAs.map (SharedT_get r) = (kl P).map fun p => some p.2) : kAs.map r.abs.heap.get? = (kl P).map fun p => some p.2 := by
  have e : ((kl P).map fun p => some p.2) = ((kl P).map (·.2)).map some := by rw [List.map_map]; rfl
  rw [e] at h ⊢
  exact map_some_of (fun a o q => SharedT_get_abs q) h
theorem end_at (w : World) (os : OsState) : ∃ r : SharedT, topRunT treeTable PySem.Challenge.pw_aw6023_01 w (boot_heap w.params).objs.size ((boot_heap w.params).nsMap mainGlobals "__annotations__") 9400 (st0 w os) (topStub PySem.Challenge.pw_aw6023_01) = some r ∧
    asked w r = (true, openGood vw looseL, (kl w.params).map fun p => some p.2) := by
  have h : endT w os = goodT w := endT_chk w os
  exact Option.map_eq_some_iff.mp h
theorem left_all : LeftO PySem.Challenge.pw_aw6023_01 vw looseL xtL (kHook kx kAs kAs_eq).obs (kHook kx kAs kAs_eq).val 18596 :=
  LeftO_of_tree (M := 9400) (boot_open pw_opening (by decide) pw_fence) boot_ns st0_abs (by decide) fun w os => by
    obtain ⟨r, hr, ha⟩ := end_at w os
    obtain ⟨l1, l2, l3⟩ := asked_parts ha
    exact ⟨r, hr, l1, l2, kept_all l3⟩
end Mine
end

-- Fin0
section
open PySem PySem.W PyProof.Rows PySem.Calls
set_option Elab.async false
set_option maxRecDepth 100000
set_option maxHeartbeats 0
set_option linter.unusedVariables false
namespace Mine
theorem holds_head (hc : ∀ d kwd, defOf vw (Str.ofString "law") = some (d, kwd) → WalkOk vw looseL (XL vw []) (kHook kx kAs kAs_eq).says PySem.Challenge.rw_aw6023_01.row.toRowW d kwd) : PySem.Challenge.rw_aw6023_01.Holds := by
  w_on
  o_law
  refine holds_openOk (q := vw) (loose := looseL) (Xt := xtL) (XP := XL vw []) (Yf := (kHook kx kAs kAs_eq).obs) (Ya := (kHook kx kAs kAs_eq).val) (YP := (kHook kx kAs kAs_eq).says) (N := 18596) left_all (kHook kx kAs kAs_eq).of (kHook kx kAs kAs_eq).keeps (fun s e => xl_of s (Bool.and_eq_true_iff.mp e).1) XL.keeps (by rfl) (by rfl) (by rfl) (fun s e => recFacts_of (Bool.and_eq_true_iff.mp e).2) (by rfl) (by first | assumption | decide +kernel) (by decide +kernel) ⟨rfl, rfl, rfl, rfl, rfl, by decide +kernel⟩ ?hw ?hc
  case hw => w_witness2
  case hc => exact hc _ _ (by rfl)
end Mine
end

-- Own
section
open PySem PySem.W PyProof.Rows PySem.Calls
set_option Elab.async false
set_option maxRecDepth 100000
set_option linter.unusedVariables false
namespace Mine

abbrev HP := Addr × (Obj → Prop)

/-- what the call has made: a ledger of addresses, each with a word of its object; all below it is as it was -/
structure Own (σ : Shared) (ps : List HP) (s : Shared) : Prop where
  keep : ∀ b o, σ.heap.get? b = some o → s.heap.get? b = some o
  mem : ∀ p ∈ ps, ∃ o, s.heap.get? p.1 = some o ∧ p.2 o
  above : ∀ p ∈ ps, σ.heap.objs.size ≤ p.1
  top : ∃ a o, σ.heap.get? a = some o ∧ σ.heap.objs.size = a + 1
  nd : (ps.map (·.1)).Nodup
  gens : s.gens = σ.gens
  drawn : s.drawn = σ.drawn
  os : s.os = σ.os

theorem Own.fresh {σ s : Shared} {ps : List HP} (O : Own σ ps s) : ∀ p ∈ ps, σ.heap.get? p.1 = none := fun p hp => by
  cases h : σ.heap.get? p.1 with
  | none => rfl
  | some o => exact absurd (Heap.lt_size h) (Nat.not_lt.mpr (O.above p hp))
theorem Own.size {σ s : Shared} {ps : List HP} (O : Own σ ps s) : σ.heap.objs.size ≤ s.heap.objs.size := by
  obtain ⟨a, o, ho, e⟩ := O.top
  rw [e]
  exact Nat.succ_le_of_lt (Heap.lt_size (O.keep a o ho))

inductive Pick (a : Addr) (P : Obj → Prop) : List HP → List HP → Prop
  | here {r} : Pick a P ((a, P) :: r) r
  | there {x r r'} : Pick a P r r' → Pick a P (x :: r) (x :: r')
  | left {l l' r} : Pick a P l l' → Pick a P (l ++ r) (l' ++ r)
  | right {l r r'} : Pick a P r r' → Pick a P (l ++ r) (l ++ r')

theorem Pick.perm {a : Addr} {P : Obj → Prop} {l r : List HP} (h : Pick a P l r) : l.Perm ((a, P) :: r) := by
  induction h with
  | here => exact .refl _
  | there _ ih => exact (ih.cons _).trans (.swap _ _ _)
  | left _ ih => exact ih.append_right _
  | right _ ih => exact (ih.append_left _).trans List.perm_middle

theorem Own.perm {σ s : Shared} {ps qs : List HP} (O : Own σ ps s) (h : ps.Perm qs) : Own σ qs s where
  keep := O.keep
  mem := fun p hp => O.mem p (h.mem_iff.mpr hp)
  above := fun p hp => O.above p (h.mem_iff.mpr hp)
  top := O.top
  nd := (h.map _).nodup_iff.mp O.nd
  gens := O.gens
  drawn := O.drawn
  os := O.os
theorem Own.tail {σ s : Shared} {p : HP} {ps : List HP} (O : Own σ (p :: ps) s) : Own σ ps s where
  keep := O.keep
  mem := fun q hq => O.mem q (.tail _ hq)
  above := fun q hq => O.above q (.tail _ hq)
  top := O.top
  nd := (List.nodup_cons.mp O.nd).2
  gens := O.gens
  drawn := O.drawn
  os := O.os
theorem Own.front {σ s : Shared} {ps r : List HP} {a : Addr} {P : Obj → Prop} (O : Own σ ps s) (h : Pick a P ps r) : Own σ ((a, P) :: r) s := O.perm h.perm
theorem Own.drop {σ s : Shared} {ps r : List HP} {a : Addr} {P : Obj → Prop} (O : Own σ ps s) (h : Pick a P ps r) : Own σ r s := (O.front h).tail
theorem Own.get {σ s : Shared} {ps r : List HP} {a : Addr} {P : Obj → Prop} (O : Own σ ps s) (h : Pick a P ps r) : ∃ o, s.heap.get? a = some o ∧ P o := (O.front h).mem (a, P) (.head _)
theorem Own.nil {σ s : Shared} {ps : List HP} (O : Own σ ps s) : Own σ [] s where
  keep := O.keep
  mem := fun q hq => nomatch hq
  above := fun q hq => nomatch hq
  top := O.top
  nd := List.nodup_nil
  gens := O.gens
  drawn := O.drawn
  os := O.os

/-- tgt is of src: each entry picked, the rest let go -/
inductive Incl : List HP → List HP → Prop
  | refl {l} : Incl l l
  | nil {l} : Incl [] l
  | cons {a P r l l'} : Pick a P l l' → Incl r l' → Incl ((a, P) :: r) l
  | skip {x r l} : Incl r l → Incl r (x :: l)
  | app {x l r l'} : l.Perm (x ++ l') → Incl r l' → Incl (x ++ r) l
theorem Incl.out {t l : List HP} (h : Incl t l) : ∃ r, l.Perm (t ++ r) := by
  induction h with
  | refl => exact ⟨[], by simp⟩
  | nil => exact ⟨_, .refl _⟩
  | cons hp _ ih => obtain ⟨r, hr⟩ := ih; exact ⟨r, hp.perm.trans (hr.cons _)⟩
  | @skip x r l _ ih => obtain ⟨q, hq⟩ := ih; exact ⟨x :: q, (hq.cons x).trans List.perm_middle.symm⟩
  | app hp _ ih => obtain ⟨r, hr⟩ := ih; exact ⟨r, hp.trans (by rw [List.append_assoc]; exact hr.append_left _)⟩
theorem Own.left {σ s : Shared} {ps qs : List HP} (O : Own σ (ps ++ qs) s) : Own σ ps s where
  keep := O.keep
  mem := fun q hq => O.mem q (List.mem_append_left _ hq)
  above := fun q hq => O.above q (List.mem_append_left _ hq)
  top := O.top
  nd := by have := O.nd; rw [List.map_append] at this; exact (List.nodup_append.mp this).1
  gens := O.gens
  drawn := O.drawn
  os := O.os
theorem Own.incl {σ s : Shared} {ps qs : List HP} (O : Own σ ps s) (h : Incl qs ps) : Own σ qs s := let ⟨_, hr⟩ := h.out; (O.perm hr).left

theorem Own.imp {σ s : Shared} {a : Addr} {P P' : Obj → Prop} {r : List HP} (O : Own σ ((a, P) :: r) s) (h : ∀ o, P o → P' o) : Own σ ((a, P') :: r) s where
  keep := O.keep
  mem := fun q hq => by
    rcases List.mem_cons.mp hq with rfl | hq
    · obtain ⟨o, ho, hP⟩ := O.mem (a, P) (.head _); exact ⟨o, ho, h o hP⟩
    · exact O.mem q (.tail _ hq)
  above := fun q hq => by
    rcases List.mem_cons.mp hq with rfl | hq
    · exact O.above (a, P) (.head _)
    · exact O.above q (.tail _ hq)
  top := O.top
  nd := O.nd
  gens := O.gens
  drawn := O.drawn
  os := O.os
/-- name the very object -/
theorem Own.freeze {σ s : Shared} {a : Addr} {P : Obj → Prop} {r : List HP} (O : Own σ ((a, P) :: r) s) : ∃ o, P o ∧ Own σ ((a, fun x => x = o) :: r) s := by
  obtain ⟨o, ho, hP⟩ := O.mem (a, P) (.head _)
  refine ⟨o, hP, O.keep, fun q hq => ?_, fun q hq => ?_, O.top, O.nd, O.gens, O.drawn, O.os⟩
  · rcases List.mem_cons.mp hq with rfl | hq
    · exact ⟨o, ho, rfl⟩
    · exact O.mem q (.tail _ hq)
  · rcases List.mem_cons.mp hq with rfl | hq
    · exact O.above (a, P) (.head _)
    · exact O.above q (.tail _ hq)

theorem Own.lt {σ s : Shared} {ps : List HP} (O : Own σ ps s) : ∀ p ∈ ps, p.1 < s.heap.objs.size := fun p hp => let ⟨_, ho, _⟩ := O.mem p hp; Heap.lt_size ho

/-- a heap in which all that stood still stands -/
theorem Own.stays {σ s : Shared} {ps : List HP} (O : Own σ ps s) {h' : Heap} {t : Nat} (hs : ∀ b o, s.heap.get? b = some o → h'.get? b = some o) : Own σ ps { s with heap := h', toks := t } where
  keep := fun b o e => hs b o (O.keep b o e)
  mem := fun p hp => let ⟨o, ho, hP⟩ := O.mem p hp; ⟨o, hs _ _ ho, hP⟩
  above := O.above
  top := O.top
  nd := O.nd
  gens := O.gens
  drawn := O.drawn
  os := O.os
/-- but one that stands under another word -/
theorem Own.upd {σ s : Shared} {ps r : List HP} {a : Addr} {P P' : Obj → Prop} (O : Own σ ps s) (hp : Pick a P ps r) {h' : Heap} {t : Nat} (hs : Heap.ExtBut a s.heap h') (ho : ∃ o, h'.get? a = some o ∧ P' o) :
    Own σ ((a, P') :: r) { s with heap := h', toks := t } := by
  have O := O.front hp
  have hf : ∀ b o, σ.heap.get? b = some o → b ≠ a := fun b o e q => by
    have := O.fresh (a, P) (.head _)
    rw [q] at e
    rw [e] at this; cases this
  refine ⟨fun b o e => hs b o (hf b o e) (O.keep b o e), fun p hp => ?_, fun p hp => ?_, O.top, O.nd, O.gens, O.drawn, O.os⟩
  · rcases List.mem_cons.mp hp with rfl | hp
    · exact ho
    · obtain ⟨o, ho, hP⟩ := O.mem p (.tail _ hp)
      refine ⟨o, hs _ _ (fun q => ?_) ho, hP⟩
      have := (List.nodup_cons.mp O.nd).1
      exact this (List.mem_map.mpr ⟨p, hp, q⟩)
  · rcases List.mem_cons.mp hp with rfl | hp
    · exact O.above (a, P) (.head _)
    · exact O.above p (.tail _ hp)
/-- one that is let go -/
theorem Own.gone {σ s : Shared} {ps r : List HP} {a : Addr} {P : Obj → Prop} (O : Own σ ps s) (hp : Pick a P ps r) {h' : Heap} {t : Nat} (hs : Heap.ExtBut a s.heap h') : Own σ r { s with heap := h', toks := t } := by
  have O := O.front hp
  have hf : ∀ b o, σ.heap.get? b = some o → b ≠ a := fun b o e q => by
    have := O.fresh (a, P) (.head _)
    rw [q] at e
    rw [e] at this; cases this
  refine ⟨fun b o e => hs b o (hf b o e) (O.keep b o e), fun p hp => ?_, fun p hp => O.above p (.tail _ hp), O.top, (List.nodup_cons.mp O.nd).2, O.gens, O.drawn, O.os⟩
  obtain ⟨o, ho, hP⟩ := O.mem p (.tail _ hp)
  refine ⟨o, hs _ _ (fun q => ?_) ho, hP⟩
  have := (List.nodup_cons.mp O.nd).1
  exact this (List.mem_map.mpr ⟨p, hp, q⟩)
/-- a new one -/
theorem Own.add {σ s : Shared} {ps : List HP} (O : Own σ ps s) {h' : Heap} {t : Nat} {P : Obj → Prop} (hs : ∀ b o, b ≠ s.heap.objs.size → s.heap.get? b = some o → h'.get? b = some o) (ho : ∃ o, h'.get? s.heap.objs.size = some o ∧ P o) :
    Own σ ((s.heap.objs.size, P) :: ps) { s with heap := h', toks := t } where
  keep := fun b o e => hs b o (Nat.ne_of_lt (Heap.lt_size (O.keep b o e))) (O.keep b o e)
  mem := fun p hp => by
    rcases List.mem_cons.mp hp with rfl | hp
    · exact ho
    · obtain ⟨o, ho, hP⟩ := O.mem p hp; exact ⟨o, hs _ _ (Nat.ne_of_lt (Heap.lt_size ho)) ho, hP⟩
  above := fun p hp => by
    rcases List.mem_cons.mp hp with rfl | hp
    · exact O.size
    · exact O.above p hp
  top := O.top
  nd := List.nodup_cons.mpr ⟨fun h => by
    obtain ⟨p, hp, e⟩ := List.mem_map.mp h
    exact absurd (O.lt p hp) (by rw [e]; exact Nat.lt_irrefl _), O.nd⟩
  gens := O.gens
  drawn := O.drawn
  os := O.os
theorem Own.push {σ s : Shared} {ps : List HP} (O : Own σ ps s) {o : Obj} {P : Obj → Prop} (hP : P o) (hf : o.isFreed = false := by rfl) {t : Nat} : Own σ ((s.heap.objs.size, P) :: ps) { s with heap := s.heap.push o, toks := t } :=
  O.add (fun b o' _ e => Heap.get?_push_of_some _ e) ⟨o, Heap.get?_push_size _ hf, hP⟩
theorem Own.toks {σ s : Shared} {ps : List HP} (O : Own σ ps s) {t : Nat} : Own σ ps { s with toks := t } := O.stays (h' := s.heap) fun _ _ e => e

/-! words of objects -/
def IsNs (m : Str → Option Value) (o : Obj) : Prop := ∃ es ep, o.data = .dict es ep ∧ StrKeys es ∧ ∀ name, nsFind es name = m name
def IsC (v : Option Value) (o : Obj) : Prop := o.data = .cell v
def IsL (vs : List Value) (o : Obj) : Prop := ∃ n, o = { cls := .type "list", data := .seq vs.toArray n }
def IsI (xs : List Int) (o : Obj) : Prop := ∃ vs n, o = { cls := .type "list", data := .seq vs.toArray n } ∧ IntsAre vs xs
def IsT (vs : List Value) (o : Obj) : Prop := ∃ n, o = { cls := .type "tuple", data := .seq vs.toArray n }
def IsD (prog : Program) (w : World) (kvs : List (Int × Value)) (o : Obj) : Prop := o.IsDictOf (intKind prog w) kvs
def IsO (o₀ : Obj) (o : Obj) : Prop := o = o₀

theorem ns_iff {h : Heap} {a : Addr} {m : Str → Option Value} : h.Ns a m ↔ ∃ o, h.get? a = some o ∧ IsNs m o :=
  ⟨fun ⟨o, es, ep, ho, r⟩ => ⟨o, ho, es, ep, r⟩, fun ⟨o, ho, es, ep, r⟩ => ⟨o, es, ep, ho, r⟩⟩
theorem Own.fr {σ s : Shared} {ps r : List HP} {L : Addr} {m : Str → Option Value} (O : Own σ ps s) (hp : Pick L (IsNs m) ps r) : Fr σ.heap L s.heap m :=
  ⟨ns_iff.mpr (O.get hp), O.keep, (O.front hp).above _ (.head _)⟩
theorem IsI.toL {xs : List Int} {o : Obj} (h : IsI xs o) : ∃ vs, IsL vs o ∧ IntsAre vs xs := let ⟨vs, n, e, hi⟩ := h; ⟨vs, ⟨n, e⟩, hi⟩
theorem IsL.toI {vs : List Value} {xs : List Int} {o : Obj} (h : IsL vs o) (hi : IntsAre vs xs) : IsI xs o := let ⟨n, e⟩ := h; ⟨vs, n, e, hi⟩

def upd (m : Str → Option Value) (x : Str) (v : Value) : Str → Option Value := fun y => if y = x then some v else m y
theorem upd_same (m : Str → Option Value) (x : Str) (v : Value) : upd m x v x = some v := if_pos rfl
theorem upd_other {m : Str → Option Value} {x y : Str} {v : Value} {r : Option Value} (hn : ¬ y = x) (h : m y = r) : upd m x v y = r := (if_neg hn).trans h
end Mine
end

-- OwnR
section
open PySem PySem.W PyProof.Rows PySem.Calls
set_option Elab.async false
set_option maxRecDepth 100000
set_option linter.unusedVariables false
namespace Mine

/-- what the module's run has left, told of the state at the call -/
structure PF (K : Frag) (σ : Shared) (mg mb : Str → Option Value) : Prop where
  K : K.In σ.heap
  g : σ.heap.Ns mainGlobals mg
  b : σ.heap.Ns builtinsNs mb
  nolimit : σ.heap.NoLimit
  builtins : ∀ x : Str, x ≠ "__name__" → mb x = bootBuiltins x
  sys : sysModules < σ.heap.objs.size
  thr : ∃ mc, σ.heap.Ns cStatics mc ∧ mc "_thread.count" = none

theorem Own.inK {K : Frag} {σ s : Shared} {mg mb} {ps : List HP} (O : Own σ ps s) (X : PF K σ mg mb) : K.In s.heap := X.K.keeps O.keep
theorem Own.noSys {K : Frag} {σ s : Shared} {mg mb} {ps r : List HP} {a P} (O : Own σ ps s) (X : PF K σ mg mb) (hp : Pick a P ps r) : (a == sysModules) = false := by
  have h := (O.front hp).above (a, P) (.head _)
  exact beq_eq_false_iff_ne.mpr fun e => absurd X.sys (by dsimp only at h; rw [← e]; exact Nat.not_lt.mpr h)

section
variable {M : Model} {A : Around} {E : Value → Shared → Prop} {σ s : Shared} {env : Env} {ps r : List HP} {K : Frag} {mg mb : Str → Option Value} {m : Str → Option Value} {x : Str} {pos : Pos} {v : Value} {L : Addr}

theorem r_load {Q : Value → Shared → Prop} (O : Own σ ps s) (h : Q v s) (hL : env.locals = L := by rfl)
    (hp : Pick L (IsNs m) ps r := by repeat (first | exact Pick.here | apply Pick.there | apply Pick.right))
    (hv : m x = some v := by first | ((repeat (first | (with_reducible exact upd_same _ _ _) | (refine upd_other (by decide) ?_))); first | done | assumption) | rfl)
    (hk : env.scope.kind = .function := by rfl) (hl : env.kindOf x = some .local := by rfl) : wpAny M A (loadName env x) Q E s := by
  subst hL
  exact wpAny_loadName_local hk hl (ns_iff.mpr (O.get hp)) hv h
theorem r_ld {Q : Value → Shared → Prop} (O : Own σ ps s) (h : Q v s) (hL : env.locals = L := by rfl)
    (hp : Pick L (IsNs m) ps r := by repeat (first | exact Pick.here | apply Pick.there | apply Pick.right))
    (hv : m x = some v := by first | ((repeat (first | (with_reducible exact upd_same _ _ _) | (refine upd_other (by decide) ?_))); first | done | assumption) | rfl)
    (hk : env.scope.kind = .function := by rfl) (hl : env.kindOf x = some .local := by rfl) (hd : (x == ("__debug__" : Str)) = false := by decide) :
    wpAny M A (eval (.Name x pos) env) Q E s := wpAny_Name (r_load O h hL hp hv hk hl) hd

theorem r_st {Q : Unit → Shared → Prop} (O : Own σ ps s) (k : ∀ s', Own σ ((L, IsNs (upd m x v)) :: r) s' → Q () s') (hL : env.locals = L := by rfl)
    (hp : Pick L (IsNs m) ps r := by repeat (first | exact Pick.here | apply Pick.there | apply Pick.right))
    (hl : env.kindOf x = some .local := by rfl) (hq : (env.scope.kind == .class || (env.scope.kind == .module && env.locals != env.globals)) = false := by rfl) :
    wpAny M A (storeName env x v) Q E s := by
  subst hL
  exact wpAny_storeName_local hl (ns_iff.mpr (O.get hp)) (fun h' hn hs => k _ (O.upd hp hs.extBut (ns_iff.mp hn))) hq

theorem r_glob {Q : Value → Shared → Prop} (X : PF K σ mg mb) (O : Own σ ps s) (h : Q v s) (e : nsIn K mainGlobals x = some (some v) := by rfl)
    (hG : env.globals = mainGlobals := by rfl) (hk : env.scope.kind = .function := by rfl) (hx : env.kindOf x = some .globalImplicit := by rfl) (hd : (x == ("__debug__" : Str)) = false := by decide) :
    wpAny M A (eval (.Name x pos) env) Q E s :=
  Calls.Name_function_global hk hx (Calls.loadGlobal_global (env := env) (hG ▸ X.g.keeps O.keep) (mg_of X.K X.g e) h) hd
theorem r_bltn {Q : Value → Shared → Prop} (X : PF K σ mg mb) (O : Own σ ps s) (h : Q v s) (e : nsIn K mainGlobals x = some none := by rfl) (hv : bootBuiltins x = some v := by rfl) (hn : x ≠ "__name__" := by decide)
    (hG : env.globals = mainGlobals := by rfl) (hB : env.builtins = builtinsNs := by rfl) (hk : env.scope.kind = .function := by rfl) (hx : env.kindOf x = some .globalImplicit := by rfl) (hd : (x == ("__debug__" : Str)) = false := by decide) :
    wpAny M A (eval (.Name x pos) env) Q E s :=
  Calls.Name_function_global hk hx (Calls.loadGlobal_builtin (env := env) (hG ▸ X.g.keeps O.keep) (mg_none_of X.K X.g e) (hB ▸ X.b.keeps O.keep) ((X.builtins x hn).trans hv) h) hd

theorem r_int {i : Int} {k : Nat} {Q : Value → Shared → Prop} (O : Own σ ps s) (h : ∀ t s', Own σ ps s' → Q (.int i t) s') : wpAny M A (eval (.Constant (.int i) k pos) env) Q E s :=
  wpAny_Constant_int (h _ _ O.toks)
theorem r_none {k : Nat} {Q : Value → Shared → Prop} (h : Q .none s) : wpAny M A (eval (.Constant .none k pos) env) Q E s := wpAny_Constant_none h
theorem r_bool {b : Bool} {k : Nat} {Q : Value → Shared → Prop} (h : Q (.bool b) s) : wpAny M A (eval (.Constant (.bool b) k pos) env) Q E s := wpAny_Constant_bool h

theorem r_newList {vs : List Value} {Q : Value → Shared → Prop} (O : Own σ ps s) (k : ∀ a s', Own σ ((a, IsL vs) :: ps) s' → Q (.ref a) s') (hsz : vs.length ≤ sizeLine := by first | decide | (rw [sizeLine_eq]; simp only [List.length_cons, List.length_nil]; omega)) : wpAny M A (newList vs) Q E s :=
  wpAny_newObj_type (k _ _ (O.push ⟨0, rfl⟩)) (by show vs.toArray.size ≤ sizeLine; rw [List.size_toArray]; exact hsz)
theorem r_newTuple {vs : List Value} {Q : Value → Shared → Prop} (O : Own σ ps s) (k : ∀ a s', Own σ ((a, IsT vs) :: ps) s' → Q (.ref a) s') (hsz : vs.length ≤ sizeLine := by first | decide | (rw [sizeLine_eq]; simp only [List.length_cons, List.length_nil]; omega)) : wpAny M A (newTuple vs) Q E s :=
  wpAny_newObj_type (k _ _ (O.push ⟨0, rfl⟩)) (by show vs.toArray.size ≤ sizeLine; rw [List.size_toArray]; exact hsz)
/-- a list's display: its items, then the list -/
theorem r_List {elts : List Expr} {Q : Value → Shared → Prop} (h : wpAny M A (spliced (backTo pos (starEach elts env))) (fun vs s₁ => wpAny M A (newList vs) Q E s₁) E s) : wpAny M A (eval (.List elts pos) env) Q E s := List_ h
theorem r_Tuple {elts : List Expr} {k : Nat} {Q : Value → Shared → Prop} (h : wpAny M A (spliced (backTo pos (starEach elts env))) (fun vs s₁ => wpAny M A (newTuple vs) Q E s₁) E s) : wpAny M A (eval (.Tuple elts k pos) env) Q E s := Tuple_ h
end

section
variable {prog : Program} {w : World} {A : Around} {E : Value → Shared → Prop} {σ s : Shared} {env : Env} {ps r : List HP} {K : Frag} {mg mb : Str → Option Value} {a b : Int} {t u : Tok} {d : Addr} {kvs : List (Int × Value)} {Q : Value → Shared → Prop}

theorem r_add (O : Own σ ps s) (k : ∀ t s', Own σ ps s' → Q (.int (a + b) t) s') : wpAny (model prog w) A (binaryOp .Add (.int a t) (.int b u)) Q E s := wpAny_add_int (k _ _ O.toks)
theorem r_mod (O : Own σ ps s) (hb : b ≠ 0) (k : ∀ t s', Own σ ps s' → Q (.int (a.fmod b) t) s') : wpAny (model prog w) A (binaryOp .Mod (.int a t) (.int b u)) Q E s := mod_int' hb (k _ _ O.toks)
theorem r_eq (h : Q (.bool (a == b)) s) : wpAny (model prog w) A (compareOp .Eq (.int a t) (.int b u)) Q E s := eq_int h
theorem r_ne (h : Q (.bool (a != b)) s) : wpAny (model prog w) A (compareOp .NotEq (.int a t) (.int b u)) Q E s := ne_int h
theorem r_le (h : Q (.bool (decide (a ≤ b))) s) : wpAny (model prog w) A (compareOp .LtE (.int a t) (.int b u)) Q E s := le_int h
theorem r_lt (h : Q (.bool (decide (a < b))) s) : wpAny (model prog w) A (compareOp .Lt (.int a t) (.int b u)) Q E s := lt_int h

theorem isInt_self (k : Int) (t : Tok) : (intKind prog w).is k (.int k t) = true := by simp [intKind, Value.isInt]
theorem Own.dict (O : Own σ ps s) (hp : Pick d (IsD prog w kvs) ps r) : s.heap.DictOf (intKind prog w) d kvs := Heap.dictOf_iff.mpr (O.get hp)

theorem r_setItem {k : Int} {v : Value} {Q : Unit → Shared → Prop} (O : Own σ ps s) (h : ∀ s', Own σ ((d, IsD prog w (stored kvs k v)) :: r) s' → Q () s') 
    (hp : Pick d (IsD prog w kvs) ps r := by repeat (first | exact Pick.here | apply Pick.there | apply Pick.right))
    (hsz : kvs.length ≤ sizeLine := by first | assumption | (rw [sizeLine_eq]; omega)) : wpAny (model prog w) A (setItem (.ref d) (.int k t) v) Q E s :=
  wpAny_setItem_pairs (isInt_self k t) (O.dict hp) (fun h' hm hs => h _ (O.upd hp hs.extBut (Heap.dictOf_iff.mp hm))) hsz
theorem r_getItem {k : Int} {v : Value} (O : Own σ ps s) (h : ∀ s', Own σ ps s' → Q v s') (hv : valueAt kvs k = some v := by assumption)
    (hp : Pick d (IsD prog w kvs) ps r := by repeat (first | exact Pick.here | apply Pick.there | apply Pick.right)) : wpAny (model prog w) A (getItem (.ref d) (.int k t)) Q E s :=
  wpAny_getItem_of (isInt_self k t) (O.dict hp).mapOf hv (h _ O.toks)
/-- the item of a dict, under a subscript's node -/
theorem r_sub {value slice : Expr} {k : Int} {v : Value} (O : Own σ ps s) (h : ∀ s', Own σ ps s' → Q v s') (hv : valueAt kvs k = some v := by assumption)
    (hp : Pick d (IsD prog w kvs) ps r := by repeat (first | exact Pick.here | apply Pick.there | apply Pick.right))
    (hs : subscripted slice false (.ref d) (.int k t) = operate [.ref d, .int k t] (getItem (.ref d) (.int k t)) := by with_unfolding_all rfl) : wpAny (model prog w) A (subscriptTail value slice (.ref d) (.int k t)) Q E s :=
  tail_any (O.dict hp).typeIs slot_dict_getitem.lookup (r_getItem O h hv hp) hs
theorem r_in {k : Int} (X : PF K σ mg mb) (O : Own σ ps s) (h : ∀ s', Own σ ps s' → Q (.bool (valueAt kvs k).isSome) s')
    (hp : Pick d (IsD prog w kvs) ps r := by repeat (first | exact Pick.here | apply Pick.there | apply Pick.right)) : wpAny (model prog w) A (compareOp .In (.int k t) (.ref d)) Q E s :=
  wpAny_in_of (isInt_self k t) (O.noSys X hp) (O.dict hp).mapOf (h _ O.toks)
theorem r_notin {k : Int} (X : PF K σ mg mb) (O : Own σ ps s) (h : ∀ s', Own σ ps s' → Q (.bool (!(valueAt kvs k).isSome)) s')
    (hp : Pick d (IsD prog w kvs) ps r := by repeat (first | exact Pick.here | apply Pick.there | apply Pick.right)) : wpAny (model prog w) A (compareOp .NotIn (.int k t) (.ref d)) Q E s :=
  wpAny_notIn_of (isInt_self k t) (O.noSys X hp) (O.dict hp).mapOf (h _ O.toks)
theorem r_append {vs : List Value} {v : Value} (O : Own σ ps s) (h : ∀ s', Own σ ((d, IsL (vs ++ [v])) :: r) s' → Q .none s')
    (hp : Pick d (IsL vs) ps r := by repeat (first | exact Pick.here | apply Pick.there | apply Pick.right))
    (hsz : vs.length ≤ sizeLine := by first | assumption | (rw [sizeLine_eq]; omega)) : wpAny (model prog w) A (call (.builtin "list.append") [.ref d, v]) Q E s := by
  obtain ⟨o, ho, n, rfl⟩ := O.get hp
  refine wpAny_list_append_plain (items := vs.toArray) ⟨n, ho⟩ (fun h' ⟨n', hl⟩ hs => h _ (O.upd hp hs.extBut ⟨_, hl, n', ?_⟩)) (by rw [List.size_toArray]; exact hsz)
  simp
theorem r_truthyL {vs : List Value} {Q : Bool → Shared → Prop} (O : Own σ ps s) (h : ∀ s', Own σ ps s' → Q (!vs.isEmpty) s')
    (hp : Pick d (IsL vs) ps r := by repeat (first | exact Pick.here | apply Pick.there | apply Pick.right))
    (hsz : vs.length ≤ sizeLine := by first | assumption | (rw [sizeLine_eq]; omega)) : wpAny (model prog w) A (truthy (.ref d)) Q E s := by
  obtain ⟨o, ho, n, rfl⟩ := O.get hp
  refine wpAny_truthy_list (items := vs.toArray) ⟨_, ho, rfl, n, rfl⟩ (by rw [List.size_toArray]; rw [sizeLine_eq] at hsz; omega) ?_
  have := h _ (O.toks (t := s.toks + 1 + 1))
  simpa using this
end
end Mine
end

-- OwnA
section
open PySem PySem.W PyProof.Rows PySem.Calls
set_option Elab.async false
set_option maxRecDepth 100000
set_option linter.unusedVariables false
namespace Mine

/-- a dict keyed by strs, handed out or not -/
def IsS (prog : Program) (w : World) (kvs : List (Str × Value)) (o : Obj) : Prop :=
  o.cls = .type "dict" ∧ o.dict = none ∧ ∃ es ep, o.data = .dict es ep ∧ KeysOf (strKind prog w) es ∧ Pairs (strKind prog w) es.toList kvs ∧ (kvs.map (·.1)).Nodup

theorem Own.upd2 {σ s : Shared} {r : List HP} {a b : Addr} {P P' R R' : Obj → Prop} (O : Own σ ((a, P) :: (b, R) :: r) s) {h' : Heap} {t : Nat} (hs : ∀ c o, c ≠ a → c ≠ b → s.heap.get? c = some o → h'.get? c = some o)
    (ha : ∃ o, h'.get? a = some o ∧ P' o) (hb : ∃ o, h'.get? b = some o ∧ R' o) : Own σ ((a, P') :: (b, R') :: r) { s with heap := h', toks := t } := by
  have hf : ∀ q ∈ ((a, P) :: (b, R) :: r), ∀ c o, σ.heap.get? c = some o → c ≠ q.1 := fun q hq c o e z => by
    have := O.fresh q hq
    rw [z, this] at e; cases e
  have hnd := O.nd
  simp only [List.map_cons, List.nodup_cons, List.mem_cons, not_or] at hnd
  refine ⟨fun c o e => hs c o (hf _ (.head _) c o e) (hf _ (.tail _ (.head _)) c o e) (O.keep c o e), fun p hp => ?_, fun p hp => ?_, O.top, O.nd, O.gens, O.drawn, O.os⟩
  · rcases List.mem_cons.mp hp with rfl | hp
    · exact ha
    · rcases List.mem_cons.mp hp with rfl | hp
      · exact hb
      · obtain ⟨o, ho, hP⟩ := O.mem p (.tail _ (.tail _ hp))
        exact ⟨o, hs _ _ (fun q => hnd.1.2 (List.mem_map.mpr ⟨p, hp, q⟩)) (fun q => hnd.2.1 (List.mem_map.mpr ⟨p, hp, q⟩)) ho, hP⟩
  · rcases List.mem_cons.mp hp with rfl | hp
    · exact O.above (a, P) (.head _)
    · rcases List.mem_cons.mp hp with rfl | hp
      · exact O.above (b, R) (.tail _ (.head _))
      · exact O.above p (.tail _ (.tail _ hp))

/-- the kit's frame and ledger over an empty base: all that stands but L -/
theorem bridge {h : Heap} {L x : Addr} {m : Str → Option Value} {ox : Obj} (hne : x ≠ L) (hns : h.Ns L m) (hx : h.get? x = some ox) :
    ∃ rest, Fr {} L h m ∧ News {} L h ((x, ox) :: rest) ∧ (∀ p ∈ rest, p.1 ≠ x) ∧ ∀ b o, b ≠ x → b ≠ L → h.get? b = some o → (b, o) ∈ rest := by
  refine ⟨(List.range h.objs.size).filterMap (fun b => if b = x ∨ b = L then none else (h.get? b).map fun o => (b, o)), ⟨hns, fun b o e => (by simp [Heap.get?] at e), Nat.zero_le _⟩, fun p hp => ?_, fun p hp => ?_, fun b o h1 h2 e => ?_⟩
  · rcases List.mem_cons.mp hp with rfl | hp
    · exact ⟨hx, hne, by simp [Heap.get?]⟩
    · obtain ⟨b, _, hb⟩ := List.mem_filterMap.mp hp
      split at hb
      · cases hb
      · rename_i hn
        obtain ⟨o, ho, rfl⟩ := Option.map_eq_some_iff.mp hb
        exact ⟨ho, fun q => hn (.inr q), by simp [Heap.get?]⟩
  · obtain ⟨b, _, hb⟩ := List.mem_filterMap.mp hp
    split at hb
    · cases hb
    · rename_i hn
      obtain ⟨o, ho, rfl⟩ := Option.map_eq_some_iff.mp hb
      exact fun q => hn (.inl q)
  · exact List.mem_filterMap.mpr ⟨b, List.mem_range.mpr (Heap.lt_size e), by rw [if_neg (by simp [h1, h2]), e]; rfl⟩

section
variable {prog : Program} {w : World}
theorem IsS.look {kvs : List (Str × Value)} {o : Obj} (h : IsS prog w kvs o) (name : Str) : lookIn name o = some (valueAt kvs name) := by
  obtain ⟨_, _, es, ep, hd, hk, hp, _⟩ := h
  have hf := hp.find name
  have q : (fun e : DictEntry => (strKind prog w).is name e.key) = fun e => e.key.isStr name := funext fun e => (isStr_of name e.key).symm
  rw [q] at hf
  unfold lookIn
  rw [hd]
  dsimp only
  cases he : es.toList.find? (·.key.isStr name) with
  | some e => rw [he] at hf; exact congrArg some hf
  | none =>
    rw [he] at hf
    have hr : es.toList.any (·.refKey) = false := by
      rw [List.any_eq_false]
      intro e hm
      obtain ⟨k, h1, _⟩ := hk e (Array.mem_toList_iff.mp hm)
      obtain ⟨t, h2⟩ := Value.isStrOf_shape h1
      simp [DictEntry.refKey, h2]
    dsimp only
    rw [hr]
    exact congrArg some hf
theorem IsS.put {kvs : List (Str × Value)} {o : Obj} (h : IsS prog w kvs o) (name : Str) (t : Tok) (v : Value) : IsS prog w (stored kvs name v) (Obj.putName name (PyData.keyHash w.params name) (.str name t) v o) := by
  obtain ⟨hx, hy, es, ep, hd, hk, hp, hn⟩ := h
  obtain ⟨c, dd, dt, sl⟩ := o
  dsimp only at hd
  subst hd
  have q : (fun e : DictEntry => e.key.isStr name) = fun e => (strKind prog w).is name e.key := funext fun e => isStr_of name e.key
  have hkey : (strKind prog w).is name (.str name t) = true := strKind_is prog w name t
  rw [Obj.putName_eq]
  unfold Obj.putNameByArray
  dsimp only
  rw [q]
  cases hi : es.findIdx? (fun e => (strKind prog w).is name e.key) with
  | some i =>
    have hi' : (es.toList.findIdx? fun e => (strKind prog w).is name e.key) = some i := by rw [← List.findIdx?_toArray]; simpa using hi
    have hi2 := hi'
    rw [hp.findIdx] at hi2
    have ha := any_of_findIdx_some hi2
    unfold stored
    rw [if_pos ha]
    refine ⟨hx, hy, _, _, rfl, hk.modify _ _, ?_, ?_⟩
    · have := hp.modify hn hi' v
      simpa using this
    · rw [keys_map_store]; exact hn
  | none =>
    have hi' : (es.toList.findIdx? fun e => (strKind prog w).is name e.key) = none := by rw [← List.findIdx?_toArray]; simpa using hi
    rw [hp.findIdx] at hi'
    have ha := not_mem_of_findIdx_none hi'
    have hna : ¬ (kvs.any fun kv => kv.1 = name) = true := by
      intro z
      obtain ⟨kv, h1, h2⟩ := List.any_eq_true.mp z
      exact ha (List.mem_map.mpr ⟨kv, h1, of_decide_eq_true h2⟩)
    unfold stored
    rw [if_neg hna]
    refine ⟨hx, hy, _, _, rfl, hk.push hkey v, ?_, ?_⟩
    · have := hp.append (hash := PyData.keyHash w.params name) hkey v
      simpa using this
    · rw [List.map_append]
      exact List.nodup_append.mpr ⟨hn, by simp, by
        intro a h1 b h2 e
        simp at h2
        subst h2
        exact ha (e ▸ h1)⟩
theorem IsS.length_le {kvs : List (Str × Value)} {o : Obj} (h : IsS prog w kvs o) : ∃ (es : List DictEntry) (n : Nat), o.data = .dict es.toArray n ∧ es.length = kvs.length := by
  obtain ⟨_, _, es, ep, hd, hk, hp, hn⟩ := h
  exact ⟨es.toList, ep, by rw [hd], hp.length⟩
end

def plainObj (C : Addr) (dd : Option Addr) (sl : Array (Option Value)) : Obj := { cls := .ref C, dict := dd, data := .plain, slots := sl }

section
variable {prog : Program} {w : World} {A : Around} {E : Value → Shared → Prop} {σ s : Shared} {env : Env} {ps r r' : List HP} {K : Frag} {mg mb m : Str → Option Value} {L g gd C : Addr} {kvs : List (Str × Value)} {name : Str} {v : Value} {expr : Bool}

theorem inst_dict {sl : Array (Option Value)} (O : Own σ ps s) (hg : Pick g (IsO (plainObj C (some gd) sl)) ps r) (hd : Pick gd (IsS prog w kvs) ps r') : ∃ od, IsS prog w kvs od ∧ InstAt s.heap g (plainObj C (some gd) sl) C (some od) := by
  obtain ⟨o, ho, rfl⟩ := O.get hg
  obtain ⟨od, hod, hS⟩ := O.get hd
  exact ⟨od, hS, ho, rfl, rfl, hod⟩

/-- an attribute that stands in the object's own dict -/
theorem r_attr {Q : Value → Shared → Prop} (X : PF K σ mg mb) (O : Own σ ps s) (h : ∀ s', Own σ ps s' → Q v s')
    (hg : Pick g (IsO (plainObj C (some gd) #[])) ps r := by repeat (first | exact Pick.here | apply Pick.there | apply Pick.right))
    (hd : Pick gd (IsS prog w kvs) ps r' := by repeat (first | exact Pick.here | apply Pick.there | apply Pick.right))
    (hv : valueAt kvs name = some v := by first | assumption | rfl)
    (hga : findIn K (.ref C) "__getattribute__" = some (some (.builtin "object.__getattribute__")) := by rfl)
    (hf : ∀ od, lookIn name od = some (some v) → findObj K C (some od) name = some (.value v) := by (intro od hod; with_unfolding_all exact congrArg (fun z => Option.bind z _) hod))
    (hh : handedIn v = true := by rfl) : wpAny (model prog w) A (getAttr (.ref g) name expr) Q E s := by
  obtain ⟨od, hS, I⟩ := inst_dict O hg hd
  exact get_value (O.inK X) I hga (hf od (by rw [hS.look name, hv])) hh (h _ O.toks)

/-- an attribute that a descriptor of the class gives -/
theorem r_attrBind {f a : Value} {Q : Value → Shared → Prop} (X : PF K σ mg mb) (O : Own σ ps s)
    (h : ∀ s' E', Own σ ps s' → wpAny (model prog w) A.in1 (call f [a, .ref g, .ref C]) (fun v s' => wpAny (model prog w) A (handedOut v) Q E s') E' s')
    (hg : Pick g (IsO (plainObj C (some gd) #[])) ps r := by repeat (first | exact Pick.here | apply Pick.there | apply Pick.right))
    (hd : Pick gd (IsS prog w kvs) ps r' := by repeat (first | exact Pick.here | apply Pick.there | apply Pick.right))
    (hv : valueAt kvs name = none := by first | assumption | rfl)
    (hga : findIn K (.ref C) "__getattribute__" = some (some (.builtin "object.__getattribute__")) := by rfl) (hgb : findIn K (.ref C) "__getattr__" = some none := by rfl)
    (hf : ∀ od, lookIn name od = some none → findObj K C (some od) name = some (.bind f a) := by (intro od hod; with_unfolding_all exact congrArg (fun z => Option.bind z _) hod)) :
    wpAny (model prog w) A (getAttr (.ref g) name expr) Q E s := by
  obtain ⟨od, hS, I⟩ := inst_dict O hg hd
  exact get_bind (O.inK X) I hga (hf od (by rw [hS.look name, hv])) hgb (h _ _ O.toks)

/-- a slot read -/
theorem r_slot {sl : Array (Option Value)} {p : Addr} {i : Nat} {Q : Value → Shared → Prop} (X : PF K σ mg mb) (O : Own σ ps s) (h : ∀ s', Own σ ps s' → Q v s')
    (hg : Pick g (IsO (plainObj C (some gd) sl)) ps r := by repeat (first | exact Pick.here | apply Pick.there | apply Pick.right))
    (hd : Pick gd (IsS prog w kvs) ps r' := by repeat (first | exact Pick.here | apply Pick.there | apply Pick.right))
    (hf : ∀ od, findObj K C (some od) name = some (.bind (.builtin "member_descriptor.__get__") (.ref p)) := by intro od; rfl)
    (hp : slotIn K p C = some i := by rfl)
    (hv : (sl[i]?).join = some v := by rfl)
    (hga : findIn K (.ref C) "__getattribute__" = some (some (.builtin "object.__getattribute__")) := by rfl) (hgb : findIn K (.ref C) "__getattr__" = some none := by rfl)
    (hh : handedIn v = true := by rfl) : wpAny (model prog w) A (getAttr (.ref g) name expr) Q E s := by
  obtain ⟨od, hS, I⟩ := inst_dict O hg hd
  exact get_bind (O.inK X) I hga (hf od) hgb (wpAny_call (slot_get (s := { s with toks := s.toks + 1 }) (O.inK X) I hp hv (handed_on hh (h _ O.toks))))

/-- a store into the object's own dict -/
theorem r_setAttr {Q : Unit → Shared → Prop} (X : PF K σ mg mb) (O : Own σ ((g, IsO (plainObj C (some gd) #[])) :: (gd, IsS prog w kvs) :: (L, IsNs m) :: ps) s)
    (h : ∀ s', Own σ ((g, IsO (plainObj C (some gd) #[])) :: (gd, IsS prog w (stored kvs name v)) :: (L, IsNs m) :: ps) s' → Q () s')
    (hs : findIn K (.ref C) "__setattr__" = some (some (.builtin "object.__setattr__")) := by rfl) (hp : plainOver K C = true := by rfl) (ht : takerIn K C name = some none := by rfl) (hh : (clsIn K C).any (·.hasDict) = true := by rfl)
    (hz : (stored kvs name v).length ≤ 1000 := by first | decide | (simp [stored]; done)) :
    wpAny (model prog w) A (setAttr (.ref g) name v) Q E s := by
  obtain ⟨od, hS, I⟩ := inst_dict O Pick.here (Pick.there Pick.here)
  have hns := ns_iff.mpr (O.get (Pick.there (Pick.there Pick.here)))
  have hnd := O.nd
  simp only [List.map_cons, List.nodup_cons, List.mem_cons, not_or] at hnd
  obtain ⟨rest, F, N, h1, h2⟩ := bridge (x := gd) (L := L) hnd.2.1.1 hns I.dict
  have hS' := hS.put name (s.toks + 1) v
  obtain ⟨es, n, e', hl⟩ := hS'.length_le
  refine set_plain (O.inK X) I hs (osa_dict (pre := []) (post := rest) (s := { s with toks := s.toks + 1 }) (es := es) (n := n) F N (O.inK X) I rfl hp ht hh (by rw [hS.look name]; rfl) (fun _ hq => nomatch hq) h1 rfl e' (by rw [hl]; exact hz) fun h' F' N' => ?_)
  refine h _ ?_
  have hN := N' _ (.head _)
  have O1 : Own σ ((gd, IsS prog w kvs) :: (L, IsNs m) :: (g, IsO (plainObj C (some gd) #[])) :: ps) s := O.perm ((List.Perm.swap _ _ _).trans ((List.Perm.swap _ _ _).cons _))
  have O2 := O1.upd2 (h' := h') (t := s.toks + 1 + 1) (P' := IsS prog w (stored kvs name v)) (R' := IsNs m) (fun c o c1 c2 hc => (N' (c, o) (.tail _ (h2 c o c1 c2 hc))).1) ⟨_, hN.1, hS'⟩ (ns_iff.mp F'.ns)
  exact O2.perm (((List.Perm.swap _ _ _).cons _).trans (List.Perm.swap _ _ _))

/-- a store into a slot -/
theorem r_setSlot {sl sl' : Array (Option Value)} {p : Addr} {i : Nat} {Q : Unit → Shared → Prop} (X : PF K σ mg mb) (O : Own σ ((g, IsO (plainObj C (some gd) sl)) :: (gd, IsS prog w kvs) :: (L, IsNs m) :: ps) s)
    (h : ∀ s', Own σ ((g, IsO (plainObj C (some gd) sl')) :: (gd, IsS prog w kvs) :: (L, IsNs m) :: ps) s' → Q () s')
    (e : (sl ++ Array.replicate (i + 1 - sl.size) none).setIfInBounds i (some v) = sl' := by rfl)
    (hs : findIn K (.ref C) "__setattr__" = some (some (.builtin "object.__setattr__")) := by rfl) (hp : plainOver K C = true := by rfl) (ht : takerIn K C name = some (some (.ref p)) := by rfl)
    (hT : typeIn K (.ref p) = some (.type "member_descriptor") := by rfl) (hi : slotIn K p C = some i := by rfl) (hz : i < 1000 := by decide) :
    wpAny (model prog w) A (setAttr (.ref g) name v) Q E s := by
  obtain ⟨od, hS, I⟩ := inst_dict O Pick.here (Pick.there Pick.here)
  have hns := ns_iff.mpr (O.get (Pick.there (Pick.there Pick.here)))
  have hnd := O.nd
  simp only [List.map_cons, List.nodup_cons, List.mem_cons, not_or] at hnd
  obtain ⟨rest, F, N, h1, h2⟩ := bridge (x := g) (L := L) hnd.1.2.1 hns I.at_
  refine set_plain (O.inK X) I hs (osa_descr (s := { s with toks := s.toks + 1 }) KF.slot_mset (O.inK X) I hp ht hT (slot_set (pre := []) (post := rest) (ox' := plainObj C (some gd) sl') (s := { s with toks := s.toks + 1 }) F N (O.inK X) I hi hz (fun _ hq => nomatch hq) h1 (by unfold plainObj; rw [← e]) rfl fun h' F' N' => ?_))
  have O1 := O.perm ((List.Perm.swap (L, IsNs m) (gd, IsS prog w kvs) ps).cons (g, IsO (plainObj C (some gd) sl)))
  refine h _ (Own.perm ?_ ((List.Perm.swap (gd, IsS prog w kvs) (L, IsNs m) ps).cons _))
  exact O1.upd2 (fun c o c1 c2 hc => (N' (c, o) (.tail _ (h2 c o c1 c2 hc))).1) ⟨_, (N' _ (.head _)).1, rfl⟩ (ns_iff.mp F'.ns)
end
end Mine
end

-- OwnC
section
open PySem PySem.W PyProof.Rows PySem.Calls
set_option Elab.async false
set_option maxRecDepth 100000
set_option linter.unusedVariables false
namespace Mine

/-- the ledger anew: in another order, less -/
theorem Own.to {σ s : Shared} {ps qs : List HP} (O : Own σ ps s)
    (h : Incl qs ps := by repeat (first | exact Incl.refl | exact Incl.nil | (apply Incl.cons; (repeat (first | exact Pick.here | apply Pick.there | apply Pick.right))) | apply Incl.skip)) : Own σ qs s := O.incl h

/-- room below the lines of depth -/
structure Room (A : Around) (n : Nat) : Prop where
  hd : A.depth + n < recursionLimit
  hu : A.units + 10 * n < cLine
  hh : A.handled = none
theorem Room.deeper {A : Around} {n : Nat} (h : Room A (n + 1)) (env : Env) : Room (A.deeper env) n :=
  ⟨by have := h.hd; show A.depth + 1 + n < _; omega, by have := h.hu; show A.units + 3 + 10 * n < _; omega, h.hh⟩
theorem Room.in1 {A : Around} {n : Nat} (h : Room A (n + 1)) : Room A.in1 n :=
  ⟨by have := h.hd; show A.depth + n < _; omega, by have := h.hu; show A.units + 1 + 10 * n < _; omega, h.hh⟩
theorem Room.less {A : Around} {n m : Nat} (h : Room A n) (hm : m ≤ n) : Room A m :=
  ⟨by have := h.hd; omega, by have := h.hu; omega, h.hh⟩
theorem Room.make {A : Around} {n : Nat} {C : Addr} {rest : List Value} {kw : List (Str × Value)} (h : Room A (n + 1)) : Room (A.under (.builtin "type.__call__" ⟨.ref C :: rest, kw⟩)) n :=
  ⟨by have := h.hd; show A.depth + 1 + n < _; omega, by have := h.hu; show A.units + _ + 10 * n < _; have e : (Code.builtin "type.__call__" ⟨.ref C :: rest, kw⟩).cUnits ≤ 10 := Nat.le_of_ble_eq_true rfl; omega, h.hh⟩

section
variable {prog : Program} {w : World} {A : Around} {E : Value → Shared → Prop} {σ s : Shared} {env : Env} {ps r r' : List HP} {K : Frag} {mg mb m : Str → Option Value} {R : Result → Shared → Prop}

/-- a call of a plain def -/
theorem c_def {f : Addr} {oc : Value} {od : Option Addr} {osl : Array (Option Value)} {fd : FuncData} {body : List Stmt} {args : Args} {binds : List (Str × Value)} {n : Nat}
    (X : PF K σ mg mb) (O : Own σ ps s) (hr : Room A (n + 1)) (ho : K.lookup f = some ⟨oc, od, .func fd, osl⟩) (hbody : fd.body = .stmts body)
    (hbind : BindsTo s fd args binds)
    (k : ∀ L s' E', Own σ ((L, IsNs (fun x => binds.reverse.lookup x)) :: ps) s' → Room (A.deeper (callEnv fd L f)) n →
      wpAny (model prog w) (A.deeper (callEnv fd L f)) (execs body (callEnv fd L f)) (fun fl s'' => R (.ok (.ret (match fl with | .ret v => v | _ => .none))) s'') E' s')
    (hcd : codeIn K fd.code fd.qualname = true := by rfl) (hcell : ∀ x ∈ fd.scope.names, x.2 ≠ .cell := by decide) (hloc : (binds.all fun x => decide (fd.scope.names.lookup x.1 = some .local)) = true := by rfl)
    (hco : fd.scope.isCoroutine = false := by rfl) (hgen : fd.scope.isGenerator = false := by rfl) (hk : fd.scope.kind = .function := by rfl) :
    codeAny (model prog w) A (.call (.ref f) args) R s := by
  refine codeAny_call_def (by have := hr.hd; omega) (O.inK X _ _ ho) rfl (X.nolimit.keeps O.keep) (codeRec_of (O.inK X) hcd) hbody hbind hcell (locs hloc) (fun h₀ hns hk' => ?_) hco hgen hk
  exact k s.heap.objs.size _ _ (O.add (fun b o _ e => hk' b o e) (ns_iff.mp hns)) (hr.deeper _)

theorem IsS_empty : IsS prog w [] emptyDict := ⟨rfl, rfl, #[], 0, rfl, fun _ he => by simp at he, Pairs.nil, List.nodup_nil⟩

/-- an object made: its __init__ is called upon it -/
theorem c_make {C fI : Addr} {rest : List Value} {kw : List (Str × Value)} {n : Nat} (X : PF K σ mg mb) (O : Own σ ps s) (hr : Room A (n + 1))
    (h : ∀ x dx s', Own σ ((x, IsO (plainObj C (some dx) #[])) :: (dx, IsS prog w []) :: ps) s' → Room (A.under (.builtin "type.__call__" ⟨.ref C :: rest, kw⟩)) n →
      codeAny (model prog w) (A.under (.builtin "type.__call__" ⟨.ref C :: rest, kw⟩)) (.call (.ref fI) ⟨.ref x :: rest, kw⟩) (InitBack x R) s')
    (hm : makesIn K C = true := by rfl) (hi : findIn K (.ref C) "__init__" = some (some (.ref fI)) := by rfl) (hf : typeIn K (.ref fI) = some (.type "function") := by rfl) :
    codeAny (model prog w) A (.call (.ref C) ⟨rest, kw⟩) R s := by
  have O1 := O.push (o := emptyDict) (P := IsS prog w []) IsS_empty (t := s.toks)
  have O2 := O1.push (o := plainObj C (some s.heap.objs.size) #[]) (P := IsO (plainObj C (some s.heap.objs.size) #[])) rfl (t := s.toks)
  have hk := h (s.heap.objs.size + 1) s.heap.objs.size _ (by have := O2; simp only [Heap.size_push] at this; exact this) hr.make
  have KX := O.inK X
  obtain ⟨hh, g, d, t, os⟩ := s
  exact make_core (makes_of KX hm) (looks_findIn KX hi) (fun self => bind_fn KX self hf) (.inl rfl) hk
end
end Mine
end

-- OwnD
section
open PySem PySem.W PyProof.Rows PySem.Calls
set_option Elab.async false
set_option maxRecDepth 100000
set_option linter.unusedVariables false
namespace Mine
/-- a dict and its epoch -/
def IsDe (prog : Program) (w : World) (kvs : List (Int × Value)) (ep : Nat) (o : Obj) : Prop :=
  ∃ es, o.ExactDict ∧ o.data = .dict es ep ∧ KeysOf (intKind prog w) es ∧ Pairs (intKind prog w) es.toList kvs ∧ (kvs.map (·.1)).Nodup
theorem IsD.ep {prog : Program} {w : World} {kvs : List (Int × Value)} {o : Obj} (h : IsD prog w kvs o) : ∃ ep, IsDe prog w kvs ep o := let ⟨es, ep, r⟩ := h; ⟨ep, es, r⟩
theorem IsDe.toD {prog : Program} {w : World} {kvs : List (Int × Value)} {ep : Nat} {o : Obj} (h : IsDe prog w kvs ep o) : IsD prog w kvs o := let ⟨es, r⟩ := h; ⟨es, ep, r⟩
theorem IsDe.nodup {prog : Program} {w : World} {kvs : List (Int × Value)} {ep : Nat} {o : Obj} (h : IsDe prog w kvs ep o) : (kvs.map (·.1)).Nodup := let ⟨_, _, _, _, _, n⟩ := h; n
def IsKI (d : Addr) (i n ep : Nat) (o : Obj) : Prop := o.cls = .type "dict_keyiterator" ∧ o.data = .fields #[.ref d, .int i 0, .int n 0, .int ep 0]
def IsLI (l : Addr) (i : Nat) (o : Obj) : Prop := o.cls = .type "list_iterator" ∧ o.data = .fields #[.ref l, .int i 0]
def IsRI (x left step : Int) (o : Obj) : Prop := o = { cls := .type "range_iterator", data := .fields #[rawInt x, rawInt left, rawInt step] }

section
variable {prog : Program} {w : World} {A : Around} {E : Value → Shared → Prop} {σ s : Shared} {env : Env} {ps r r' : List HP} {K : Frag} {mg mb m : Str → Option Value} {R : Result → Shared → Prop} {d I l : Addr} {kvs : List (Int × Value)} {ep i : Nat} {vs : List Value}

theorem Own.freezeD (O : Own σ ((d, IsD prog w kvs) :: ps) s) : ∃ ep, Own σ ((d, IsDe prog w kvs ep) :: ps) s := by
  obtain ⟨o, ho, O'⟩ := O.freeze
  obtain ⟨ep, he⟩ := ho.ep
  exact ⟨ep, O'.imp fun x hx => hx ▸ he⟩

theorem dictAt_of (O : Own σ ps s) (hp : Pick d (IsDe prog w kvs ep) ps r) : s.heap.DictAt (intKind prog w) d kvs ep := let ⟨o, ho, es, h⟩ := O.get hp; ⟨o, es, ho, h⟩

theorem r_iterD {Q : Value → Shared → Prop} (X : PF K σ mg mb) (O : Own σ ps s) (h : ∀ I s', Own σ ((I, IsKI d 0 kvs.length ep) :: ps) s' → Q (.ref I) s')
    (hp : Pick d (IsDe prog w kvs ep) ps r := by repeat (first | exact Pick.here | apply Pick.there | apply Pick.right)) : wpAny (model prog w) A (pyIter (.ref d)) Q E s :=
  wpAny_pyIter_dict (O.noSys X hp) (dictAt_of O hp) (h _ _ (O.push ⟨rfl, rfl⟩))
theorem r_iterB {Q : Value → Shared → Prop} (X : PF K σ mg mb) (O : Own σ ps s) (h : ∀ I s', Own σ ((I, IsKI d 0 kvs.length ep) :: ps) s' → Q (.ref I) s')
    (hp : Pick d (IsDe prog w kvs ep) ps r := by repeat (first | exact Pick.here | apply Pick.there | apply Pick.right)) : wpAny (model prog w) A (call (.builtin "iter") [.ref d]) Q E s := by
  refine call_function_entry (by decide +kernel) (by decide +kernel) kdk_entry_iter (kdk_args_iter _) ?_
  unfold Builtin.«iter»
  refine wpAny_bind (m := PySem.someArgs "iter" 1 2 _) (wpAny_of_eq (a := [Value.ref d]) (by first | rfl | kernel_rfl!) ?_)
  show wpAny _ _ (pyIter (.ref d) >>= _) _ _ _
  exact wpAny_bind (r_iterD X O (fun I s' O' => wpAny_pure ⟨_, rfl, h I s' O'⟩) hp)

theorem r_nextD {k : Int} {v : Value} {Q : Option Value → Shared → Prop} (O : Own σ ((I, IsKI d i kvs.length ep) :: ps) s) (hx : kvs[i]? = some (k, v))
    (h : ∀ t s', Own σ ((I, IsKI d (i + 1) kvs.length ep) :: ps) s' → Q (some (.int k t)) s')
    (hp : Pick d (IsDe prog w kvs ep) ps r := by repeat (first | exact Pick.here | apply Pick.there | apply Pick.right)) : wpAny (model prog w) A (pyNext (.ref I)) Q E s := by
  obtain ⟨o, ho, h1, h2⟩ := O.get .here
  refine wpAny_pyNext_dict_item ⟨o, ho, h1, h2⟩ (dictAt_of O (.there hp)) hx fun key h' hk ⟨o', ho', h1', h2'⟩ hs => ?_
  obtain ⟨t, rfl⟩ := Value.isInt_shape hk
  exact h t _ (O.upd (t := s.toks) .here hs.extBut ⟨o', ho', h1', h2'⟩)
theorem r_endD {Q : Option Value → Shared → Prop} (O : Own σ ((I, IsKI d i kvs.length ep) :: ps) s) (hh : A.handled = none) (hx : kvs[i]? = none)
    (h : ∀ s', Own σ ps s' → Q none s')
    (hp : Pick d (IsDe prog w kvs ep) ps r := by repeat (first | exact Pick.here | apply Pick.there | apply Pick.right)) : wpAny (model prog w) A (pyNext (.ref I)) Q E s := by
  obtain ⟨o, ho, h1, h2⟩ := O.get .here
  exact wpAny_pyNext_dict_end hh ⟨o, ho, h1, h2⟩ (dictAt_of O (.there hp)) hx fun h' hs => h _ (O.gone (t := s.toks) .here hs)

theorem isList_of (O : Own σ ps s) (hp : Pick l (IsL vs) ps r) : s.heap.IsList l vs.toArray := by
  obtain ⟨o, ho, n, rfl⟩ := O.get hp; exact ⟨_, ho, rfl, n, rfl⟩
theorem r_iterL {Q : Value → Shared → Prop} (O : Own σ ps s) (h : ∀ I s', Own σ ((I, IsLI l 0) :: ps) s' → Q (.ref I) s')
    (hp : Pick l (IsL vs) ps r := by repeat (first | exact Pick.here | apply Pick.there | apply Pick.right)) : wpAny (model prog w) A (pyIter (.ref l)) Q E s :=
  wpAny_pyIter_list (isList_of O hp) (h _ _ (O.push ⟨rfl, rfl⟩))
theorem r_nextL {v : Value} {Q : Option Value → Shared → Prop} (O : Own σ ((I, IsLI l i) :: ps) s) (hx : vs[i]? = some v)
    (h : ∀ s', Own σ ((I, IsLI l (i + 1)) :: ps) s' → Q (some v) s')
    (hp : Pick l (IsL vs) ps r := by repeat (first | exact Pick.here | apply Pick.there | apply Pick.right)) : wpAny (model prog w) A (pyNext (.ref I)) Q E s := by
  obtain ⟨o, ho, h1, h2⟩ := O.get .here
  refine wpAny_pyNext_list_item ⟨o, ho, h1, h2⟩ (isList_of O (.there hp)) (x := v) (by simpa using hx) fun h' ⟨o', ho', h1', h2'⟩ hs => ?_
  exact h _ (O.upd (t := s.toks) .here hs.extBut ⟨o', ho', h1', h2'⟩)
theorem r_endL {Q : Option Value → Shared → Prop} (O : Own σ ((I, IsLI l i) :: ps) s) (hh : A.handled = none) (hx : vs[i]? = none)
    (h : ∀ s', Own σ ps s' → Q none s')
    (hp : Pick l (IsL vs) ps r := by repeat (first | exact Pick.here | apply Pick.there | apply Pick.right)) : wpAny (model prog w) A (pyNext (.ref I)) Q E s := by
  obtain ⟨o, ho, h1, h2⟩ := O.get .here
  exact wpAny_pyNext_list_end hh ⟨o, ho, h1, h2⟩ (isList_of O (.there hp)) (by simpa using hx) fun h' hs => h _ (O.gone (t := s.toks) .here hs)
end
end Mine
namespace Mine
section
variable {prog : Program} {w : World} {A : Around} {E : Value → Shared → Prop} {σ s : Shared} {env : Env} {ps r r' : List HP} {K : Frag} {mg mb m : Str → Option Value} {R : Result → Shared → Prop} {g C d : Addr} {name : Str} {v : Value} {expr : Bool} {Q : Value → Shared → Prop}
/-- an attribute of an object that stood at the top -/
theorem r_attrK {ox od : Obj} {gd : Addr} (X : PF K σ mg mb) (O : Own σ ps s) (h : ∀ s', Own σ ps s' → Q v s') (ho : K.lookup g = some ox) (hd : K.lookup gd = some od) (hdd : ox.dict = some gd) (hcls : ox.cls = .ref C) (hno : notCls ox = true)
    (hf : findObj K C (some od) name = some (.value v)) (hga : findIn K (.ref C) "__getattribute__" = some (some (.builtin "object.__getattribute__"))) (hh : handedIn v = true) : wpAny (model prog w) A (getAttr (.ref g) name expr) Q E s :=
  have KX := O.inK X
  get_value KX ⟨KX _ _ ho, hcls, hno, by rw [hdd]; exact KX _ _ hd⟩ hga hf hh (h _ O.toks)
end
end Mine
end

-- OwnE
section
open PySem PySem.W PyProof.Rows PySem.Calls
set_option Elab.async false
set_option maxRecDepth 100000
set_option linter.unusedVariables false
namespace Mine
section
variable {prog : Program} {w : World} {A : Around} {E : Value → Shared → Prop} {σ s : Shared} {env : Env} {ps r : List HP} {K : Frag} {mg mb : Str → Option Value} {d : Addr} {kvs : List (Str × Value)} {x : Str} {t : Tok} {v dflt : Value}

theorem absent_of {kvs : List (Str × Value)} {x : Str} (h : valueAt kvs x = none) : (kvs.findIdx? fun kv => decide (kv.1 = x)) = none := by
  unfold valueAt at h
  rw [Option.map_eq_none_iff] at h
  rw [List.findIdx?_eq_none_iff]
  intro kv hkv
  have := List.find?_eq_none.mp h kv hkv
  simpa using this

/-- dict.get of a name that isn't there -/
theorem r_getS {Q : Value → Shared → Prop} (X : PF K σ mg mb) (O : Own σ ps s) (h : ∀ s', Own σ ps s' → Q dflt s') (hv : valueAt kvs x = none) (hp : Pick d (IsS prog w kvs) ps r) :
    wpAny (model prog w) A (call (.builtin "dict.get") [.ref d, .str x t, dflt]) Q E s := by
  obtain ⟨o, ho, hc, hdn, es, ep, hd, hk, hpr, hn⟩ := O.get hp
  have hT : s.TypeIs (.ref d) "dict" := ⟨o, ho, hc⟩
  refine wpAny_call_entry F.slot_dict_get hT F.entry_dict_get ?_ (F.args_dict_get_3 _ _ _)
  show wpAny _ _ (dictGet d (.str x t) >>= _) _ _ s
  refine wpAny_bind ?_
  unfold dictGet
  refine wpAny_holding (wpAny_bind ((strKind prog w).pyHash (k := x) (strKind_is prog w x t) (wpAny_bind (wpAny_dictFind_of (s := { s with toks := s.toks + 1 }) (strKind_is prog w x t) ho hd hk ?_))))
  have hi : (es.findIdx? fun e => (strKind prog w).is x e.key) = none := by
    have := hpr.findIdx x
    rw [absent_of hv] at this
    rw [← List.findIdx?_toArray] at this
    simpa using this
  rw [hi]
  refine wpAny_pure ?_
  show wpAny _ _ (Builtin.Dict.missed d (.str x t) >>= _) _ _ _
  exact wpAny_bind (wpAny_missed_other (O.noSys X hp) (wpAny_pure ⟨dflt, rfl, h _ O.toks⟩))

/-- a name stored that wasn't there -/
theorem r_setS {Q : Unit → Shared → Prop} (X : PF K σ mg mb) (O : Own σ ps s) (h : ∀ s', Own σ ((d, IsS prog w (kvs ++ [(x, v)])) :: r) s' → Q () s') (hv : valueAt kvs x = none) (hz : kvs.length ≤ sizeLine) (hp : Pick d (IsS prog w kvs) ps r) :
    wpAny (model prog w) A (setItem (.ref d) (.str x t) v) Q E s := by
  obtain ⟨o, ho, hc, hdn, es, ep, hd, hk, hpr, hn⟩ := O.get hp
  have hT : s.TypeIs (.ref d) "dict" := ⟨o, ho, hc⟩
  have hi' := absent_of hv
  have hi : (es.findIdx? fun e => (strKind prog w).is x e.key) = none := by
    have := hpr.findIdx x
    rw [hi', ← List.findIdx?_toArray] at this
    simpa using this
  have hl : es.size = kvs.length := by rw [← hpr.length]; simp
  unfold setItem
  refine wpAny_holding (wpAny_bind (wpAny_sequenceKey hT (by decide) ?_))
  refine wpAny_bind (wpAny_callSpecial?_slot (name := Str.ofString "__setitem__") hT slot_dict_setitem (wpAny_call_entry slot_dict_setitem hT entry_dict_setitem ?_ (args_dict_setitem _ _ _)))
  show wpAny _ _ (Builtin.Dict.notOrdered "__setitem__" ⟨[.ref d, .str x t, v], []⟩ >>= _) _ _ s
  refine wpAny_bind (wpAny_notOrdered_dict hT ?_)
  show wpAny _ _ (dictSet d (.str x t) v >>= _) _ _ s
  refine wpAny_bind ?_
  unfold dictSet
  refine wpAny_holding (wpAny_bind ((strKind prog w).pyHash (k := x) (strKind_is prog w x t) ?_))
  unfold dictSetHashed
  refine wpAny_holding (wpAny_bind (wpAny_dictFind_of (s := { s with toks := s.toks + 1 }) (strKind_is prog w x t) ho hd hk ?_))
  rw [hi]
  refine wpAny_bind (wpAny_rule (wpAny_updateDictKeys (s := { s with toks := s.toks + 1 }) ho hd ?_ (by rw [hl]; exact hz)))
  refine wpAny_pure ⟨.none, rfl, wpAny_pure (h _ (O.upd hp (Heap.SameBut.update ..).extBut ⟨_, Heap.get?_update_self _ ho (Obj.isFreed_of_dict (Obj.data_mapDictKeys hd _)), ?_⟩))⟩
  have hcc := Obj.cls_mapDictKeys o fun es => es.push ⟨(strKind prog w).hash x, .str x t, v⟩
  refine ⟨hcc.trans hc, ?_, _, _, Obj.data_mapDictKeys hd _, hk.push (strKind_is prog w x t) v, ?_, ?_⟩
  · obtain ⟨c, dd, dt, sl⟩ := o; subst hd; exact hdn
  · have := hpr.append (strKind_is prog w x t) ((strKind prog w).hash x) v
    simpa using this
  · rw [List.map_append]
    refine List.nodup_append.mpr ⟨hn, by simp, ?_⟩
    intro a h1 b h2 e
    simp at h2
    subst h2
    exact not_mem_of_findIdx_none hi' (e ▸ h1)

/-- the method of a dict, by its name -/
theorem r_meth {d : Addr} {T id : String} {name : Str} {pl : Sem Bool} {P : Obj → Prop} {Q : Value × List Value → Shared → Prop} (O : Own σ ps s) (h : Q (.builtin id, [.ref d]) s) (hp : Pick d P ps r) (hP : ∀ o, P o → o.cls = .type T ∧ o.dict = none)
    (pa : PlainAttrs T) (slot : Slot T name id) (hty : typeOf (.builtin id) = pure (.type "method_descriptor")) : wpAny (model prog w) A (getMethod (.ref d) name pl) Q E s := by
  obtain ⟨o, ho, hPo⟩ := O.get hp
  exact getMethod_builtin ⟨o, ho, (hP o hPo).1⟩ pa slot hty (fun a e => by cases e; exact ⟨o, ho, (hP o hPo).2⟩) h
theorem r_methGetS {pl : Sem Bool} {Q : Value × List Value → Shared → Prop} (O : Own σ ps s) (h : Q (.builtin "dict.get", [.ref d]) s) (hp : Pick d (IsS prog w kvs) ps r) : wpAny (model prog w) A (getMethod (.ref d) "get" pl) Q E s :=
  r_meth O h hp (fun o h => ⟨h.1, h.2.1⟩) PySem.F.plainAttrs_dict PySem.F.slot_dict_get PySem.F.type_dict_get
theorem r_methGetD {kvs : List (Int × Value)} {pl : Sem Bool} {Q : Value × List Value → Shared → Prop} (O : Own σ ps s) (h : Q (.builtin "dict.get", [.ref d]) s) (hp : Pick d (IsD prog w kvs) ps r) : wpAny (model prog w) A (getMethod (.ref d) "get" pl) Q E s :=
  r_meth O h hp (fun o h => by obtain ⟨_, _, hx, _⟩ := h; exact ⟨hx.1, hx.2.1⟩) PySem.F.plainAttrs_dict PySem.F.slot_dict_get PySem.F.type_dict_get
/-- a value that an object of the top bears, called -/
theorem r_methK {ox od : Obj} {g gd C : Addr} {name : Str} {pl : Sem Bool} {Q : Value × List Value → Shared → Prop} (X : PF K σ mg mb) (O : Own σ ps s) (h : ∀ s', Own σ ps s' → Q (v, []) s') (ho : K.lookup g = some ox) (hd : K.lookup gd = some od) (hdd : ox.dict = some gd) (hcls : ox.cls = .ref C) (hno : notCls ox = true)
    (hf : findObj K C (some od) name = some (.value v)) (hn : findIn K (.ref C) name = some none) (hga : findIn K (.ref C) "__getattribute__" = some (some (.builtin "object.__getattribute__"))) (hgb : findIn K (.ref C) "__getattr__" = some none) (hh : handedIn v = true) :
    wpAny (model prog w) A (getMethod (.ref g) name pl) Q E s :=
  have KX := O.inK X
  method_usual (r := none) (od := some od) KX ⟨KX _ _ ho, hcls, hno, by rw [hdd]; exact KX _ _ hd⟩ hga hgb hn rfl (r_attrK X O h ho hd hdd hcls hno hf hga hh)
/-- a method of an object's class -/
theorem r_methI {g gd C f : Addr} {sl : Array (Option Value)} {kvs : List (Str × Value)} {r' : List HP} {name : Str} {pl : Sem Bool} {Q : Value × List Value → Shared → Prop} (X : PF K σ mg mb) (O : Own σ ps s) (h : Q (.ref f, [.ref g]) s)
    (hg : Pick g (IsO (plainObj C (some gd) sl)) ps r := by repeat (first | exact Pick.here | apply Pick.there | apply Pick.right))
    (hd : Pick gd (IsS prog w kvs) ps r' := by repeat (first | exact Pick.here | apply Pick.there | apply Pick.right))
    (hv : valueAt kvs name = none := by first | assumption | rfl)
    (hf : findIn K (.ref C) name = some (some (.ref f)) := by rfl) (ht : typeIn K (.ref f) = some (.type "function") := by rfl)
    (hga : findIn K (.ref C) "__getattribute__" = some (some (.builtin "object.__getattribute__")) := by rfl) (hgb : findIn K (.ref C) "__getattr__" = some none := by rfl) :
    wpAny (model prog w) A (getMethod (.ref g) name pl) Q E s := by
  obtain ⟨od, hS, I⟩ := inst_dict O hg hd
  exact method_fn (O.inK X) I hga hgb hf ht (by show (lookIn name od).map _ = _; rw [hS.look name, hv]; rfl) h
end
end Mine
end

-- Ow2
section
open PySem PySem.W PyProof.Rows PySem.Calls
set_option Elab.async false
set_option maxRecDepth 100000
set_option linter.unusedVariables false
namespace Mine

theorem Own.tailPerm {σ s : Shared} {x : HP} {front T T' : List HP} (O : Own σ (x :: (front ++ T')) s) (h : (x :: T').Perm T) : Own σ (front ++ T) s :=
  O.perm (List.perm_middle.symm.trans (h.append_left front))

/-- values kept beside a list of keyed things -/
theorem valueAt_map {α : Type} (key : α → Int) (f : α → Value) (P : List α) (k : Int) : valueAt (P.map fun e => (key e, f e)) k = (P.find? fun e => key e = k).map f := by
  induction P with
  | nil => rfl
  | cons e P ih =>
    unfold valueAt at ih ⊢
    rw [List.map_cons, List.find?_cons, List.find?_cons]
    by_cases h : key e = k
    · simp [h]
    · simp only [h, decide_false]; exact ih

theorem ints_snoc {vs : List Value} {xs : List Int} (h : IntsAre vs xs) (x : Int) (t : Tok) : IntsAre (vs ++ [.int x t]) (xs ++ [x]) := by
  induction h with
  | nil => exact .cons x t .nil
  | cons n t' _ ih => exact .cons n t' ih
theorem ints_len {vs : List Value} {xs : List Int} (h : IntsAre vs xs) : vs.length = xs.length := by
  induction h with
  | nil => rfl
  | cons n t _ ih => simp [ih]
theorem ints_at {vs : List Value} {xs : List Int} (h : IntsAre vs xs) : ∀ {i : Nat} {x : Int}, xs[i]? = some x → ∃ t, vs[i]? = some (.int x t) := by
  induction h with
  | nil => intro i x h; simp at h
  | cons n t _ ih =>
    intro i x h
    cases i with
    | zero => simp at h; exact ⟨t, by simp [h]⟩
    | succ i => simpa using ih (by simpa using h)

/-- a dict of ints to ints -/
def IsDI (prog : Program) (w : World) (S : List (Int × Int)) (o : Obj) : Prop := ∃ tk : Int → Tok, IsD prog w (S.map fun p => (p.1, .int p.2 (tk p.1))) o
def intAt (S : List (Int × Int)) (k : Int) : Option Int := (S.find? fun p => p.1 = k).map (·.2)

section
variable {prog : Program} {w : World} {A : Around} {E : Value → Shared → Prop} {σ s : Shared} {env : Env} {ps r r' : List HP} {K : Frag} {mg mb m : Str → Option Value} {d I l a : Addr} {xs : List Int} {S : List (Int × Int)} {i : Nat} {x k : Int} {t u : Tok}

theorem Own.openI (O : Own σ ps s) (hp : Pick a (IsI xs) ps r) : ∃ vs, IntsAre vs xs ∧ Own σ ((a, IsL vs) :: r) s := by
  obtain ⟨o, ⟨vs, n, rfl, hi⟩, O'⟩ := (O.front hp).freeze
  exact ⟨vs, hi, O'.imp fun x hx => ⟨n, hx⟩⟩
theorem isL_toI {vs : List Value} (h : IntsAre vs xs) : ∀ o, IsL vs o → IsI xs o := fun o ⟨n, e⟩ => ⟨vs, n, e, h⟩
theorem Own.closeI {vs : List Value} (O : Own σ ((a, IsL vs) :: ps) s) (h : IntsAre vs xs) : Own σ ((a, IsI xs) :: ps) s := O.imp (isL_toI h)

theorem r_appendI {Q : Value → Shared → Prop} (O : Own σ ps s) (h : ∀ s', Own σ ((a, IsI (xs ++ [x])) :: r) s' → Q .none s') (hp : Pick a (IsI xs) ps r) (hsz : xs.length ≤ sizeLine) :
    wpAny (model prog w) A (call (.builtin "list.append") [.ref a, .int x t]) Q E s := by
  obtain ⟨vs, hi, O1⟩ := O.openI hp
  exact r_append O1 (fun s' O' => h s' (O'.closeI (ints_snoc hi x t))) .here (by rw [ints_len hi]; exact hsz)
theorem r_truthyI {Q : Bool → Shared → Prop} (O : Own σ ps s) (h : ∀ s', Own σ ps s' → Q (!xs.isEmpty) s') (hp : Pick a (IsI xs) ps r) (hsz : xs.length ≤ sizeLine) : wpAny (model prog w) A (truthy (.ref a)) Q E s := by
  obtain ⟨vs, hi, O1⟩ := O.openI hp
  refine r_truthyL O1 (fun s' O' => ?_) .here (by rw [ints_len hi]; exact hsz)
  have e : (!vs.isEmpty) = !xs.isEmpty := by cases hi <;> rfl
  rw [e]
  exact h s' ((O'.closeI hi).perm hp.perm.symm)
theorem r_iterI {Q : Value → Shared → Prop} (O : Own σ ps s) (h : ∀ I s', Own σ ((I, IsLI a 0) :: ps) s' → Q (.ref I) s') (hp : Pick a (IsI xs) ps r) : wpAny (model prog w) A (pyIter (.ref a)) Q E s := by
  obtain ⟨vs, hi, O1⟩ := O.openI hp
  exact r_iterL O1 (fun I s' O' => h I s' ((O'.perm (.swap _ _ _) |>.closeI hi).perm ((List.Perm.swap _ _ _).trans (hp.perm.symm.cons _)))) .here
theorem r_nextI {Q : Option Value → Shared → Prop} (O : Own σ ((I, IsLI a i) :: ps) s) (hx : xs[i]? = some x) (h : ∀ t s', Own σ ((I, IsLI a (i + 1)) :: ps) s' → Q (some (.int x t)) s') (hp : Pick a (IsI xs) ps r) :
    wpAny (model prog w) A (pyNext (.ref I)) Q E s := by
  obtain ⟨vs, hi, O1⟩ := O.openI (.there hp)
  obtain ⟨t, ht⟩ := ints_at hi hx
  exact r_nextL (O1.perm (.swap _ _ _)) ht (fun s' O' => h t s' ((O'.perm (.swap _ _ _) |>.closeI hi).perm ((List.Perm.swap _ _ _).trans (hp.perm.symm.cons _)))) .here
theorem r_endI {Q : Option Value → Shared → Prop} (O : Own σ ((I, IsLI a i) :: ps) s) (hh : A.handled = none) (hx : xs[i]? = none) (h : ∀ s', Own σ ps s' → Q none s') (hp : Pick a (IsI xs) ps r) :
    wpAny (model prog w) A (pyNext (.ref I)) Q E s := by
  obtain ⟨vs, hi, O1⟩ := O.openI (.there hp)
  have ht : vs[i]? = none := by rw [List.getElem?_eq_none_iff] at hx ⊢; rw [ints_len hi]; exact hx
  exact r_endL (O1.perm (.swap _ _ _)) hh ht (fun s' O' => h s' ((O'.closeI hi).perm hp.perm.symm)) .here
theorem r_methAppend {pl : Sem Bool} {Q : Value × List Value → Shared → Prop} (O : Own σ ps s) (h : Q (.builtin "list.append", [.ref a]) s) (hp : Pick a (IsI xs) ps r) : wpAny (model prog w) A (getMethod (.ref a) "append" pl) Q E s :=
  r_meth O h hp (fun o ⟨vs, n, e, _⟩ => by subst e; exact ⟨rfl, rfl⟩) PySem.F.plainAttrs_list PySem.F.slot_list_append PySem.F.type_list_append
theorem r_newI {vs : List Value} {Q : Value → Shared → Prop} (O : Own σ ps s) (hi : IntsAre vs xs) (k : ∀ a s', Own σ ((a, IsI xs) :: ps) s' → Q (.ref a) s') (hsz : vs.length ≤ sizeLine := by first | decide | (rw [sizeLine_eq]; simp only [List.length_cons, List.length_nil]; omega)) : wpAny (model prog w) A (newList vs) Q E s :=
  r_newList O (fun a s' O' => k a s' (O'.closeI hi)) hsz

/-- dicts of ints -/
theorem Own.openDI (O : Own σ ps s) (hp : Pick d (IsDI prog w S) ps r) : ∃ tk : Int → Tok, Own σ ((d, IsD prog w (S.map fun p => (p.1, .int p.2 (tk p.1)))) :: r) s := by
  obtain ⟨o, ⟨tk, h⟩, O'⟩ := (O.front hp).freeze
  exact ⟨tk, O'.imp fun x hx => hx ▸ h⟩
theorem Own.closeDI {tk : Int → Tok} (O : Own σ ((d, IsD prog w (S.map fun p => (p.1, .int p.2 (tk p.1)))) :: ps) s) : Own σ ((d, IsDI prog w S) :: ps) s := O.imp fun o h => ⟨tk, h⟩
theorem isSome_intAt (tk : Int → Tok) : (valueAt (S.map fun p => (p.1, (.int p.2 (tk p.1) : Value))) k).isSome = (intAt S k).isSome := by
  rw [valueAt_map (fun p : Int × Int => p.1) (fun p => .int p.2 (tk p.1)), intAt]; cases S.find? _ <;> rfl
theorem r_inDI {Q : Value → Shared → Prop} (X : PF K σ mg mb) (O : Own σ ps s) (h : ∀ s', Own σ ps s' → Q (.bool (intAt S k).isSome) s') (hp : Pick d (IsDI prog w S) ps r) : wpAny (model prog w) A (compareOp .In (.int k t) (.ref d)) Q E s := by
  obtain ⟨tk, O1⟩ := O.openDI hp
  refine r_in X O1 (fun s' O' => ?_) .here
  rw [isSome_intAt]
  exact h s' (O'.closeDI.perm hp.perm.symm)
theorem r_notinDI {Q : Value → Shared → Prop} (X : PF K σ mg mb) (O : Own σ ps s) (h : ∀ s', Own σ ps s' → Q (.bool (!(intAt S k).isSome)) s') (hp : Pick d (IsDI prog w S) ps r) : wpAny (model prog w) A (compareOp .NotIn (.int k t) (.ref d)) Q E s := by
  obtain ⟨tk, O1⟩ := O.openDI hp
  refine r_notin X O1 (fun s' O' => ?_) .here
  rw [isSome_intAt]
  exact h s' (O'.closeDI.perm hp.perm.symm)
theorem valueAt_intAt (tk : Int → Tok) (hv : intAt S k = some x) : ∃ t, valueAt (S.map fun p => (p.1, (.int p.2 (tk p.1) : Value))) k = some (.int x t) := by
  rw [valueAt_map (fun p : Int × Int => p.1) (fun p => .int p.2 (tk p.1))]
  unfold intAt at hv
  cases hf : S.find? fun p => p.1 = k with
  | none => rw [hf] at hv; cases hv
  | some p => rw [hf] at hv; cases hv; exact ⟨_, rfl⟩
theorem valueAt_intAt_none (tk : Int → Tok) (hv : intAt S k = none) : valueAt (S.map fun p => (p.1, (.int p.2 (tk p.1) : Value))) k = none := by
  rw [valueAt_map (fun p : Int × Int => p.1) (fun p => .int p.2 (tk p.1))]
  unfold intAt at hv
  cases hf : S.find? fun p => p.1 = k with
  | none => rfl
  | some p => rw [hf] at hv; cases hv
theorem r_subDI {value slice : Expr} {Q : Value → Shared → Prop} (O : Own σ ps s) (h : ∀ t s', Own σ ps s' → Q (.int x t) s') (hv : intAt S k = some x) (hp : Pick d (IsDI prog w S) ps r)
    (hs : subscripted slice false (.ref d) (.int k t) = operate [.ref d, .int k t] (getItem (.ref d) (.int k t)) := by with_unfolding_all rfl) : wpAny (model prog w) A (subscriptTail value slice (.ref d) (.int k t)) Q E s := by
  obtain ⟨tk, O1⟩ := O.openDI hp
  obtain ⟨t', ht⟩ := valueAt_intAt tk hv
  exact r_sub O1 (fun s' O' => h t' s' (O'.closeDI.perm hp.perm.symm)) ht .here hs
theorem put_tok (tk : Int → Tok) (hv : intAt S k = none) (t : Tok) : stored (S.map fun p => (p.1, (.int p.2 (tk p.1) : Value))) k (.int x t) = (S ++ [(k, x)]).map fun p => (p.1, (.int p.2 ((fun y => if y = k then t else tk y) p.1) : Value)) := by
  rw [stored_absent (valueAt_intAt_none tk hv), List.map_append]
  congr 1
  · refine List.map_congr_left fun p hp => ?_
    have : p.1 ≠ k := fun e => by
      unfold intAt at hv
      rw [Option.map_eq_none_iff] at hv
      have := List.find?_eq_none.mp hv p hp
      simp [e] at this
    simp [this]
  · simp
theorem r_setDI {Q : Unit → Shared → Prop} (O : Own σ ps s) (h : ∀ s', Own σ ((d, IsDI prog w (S ++ [(k, x)])) :: r) s' → Q () s') (hv : intAt S k = none) (hp : Pick d (IsDI prog w S) ps r) (hsz : S.length ≤ sizeLine) :
    wpAny (model prog w) A (setItem (.ref d) (.int k t) (.int x u)) Q E s := by
  obtain ⟨tk, O1⟩ := O.openDI hp
  refine r_setItem O1 (fun s' O' => h s' ?_) .here (by rw [List.length_map]; exact hsz)
  rw [put_tok tk hv] at O'
  exact O'.closeDI (tk := fun y => if y = k then u else tk y)
end
end Mine
end

-- OwnK
section
open PySem PySem.W PyProof.Rows PySem.Calls
set_option Elab.async false
set_option maxRecDepth 100000
set_option linter.unusedVariables false
namespace Mine
section
variable {prog : Program} {w : World} {A : Around} {E : Value → Shared → Prop} {σ s : Shared} {env : Env} {ps r r' : List HP} {K : Frag} {mg mb m : Str → Option Value} {R : Result → Shared → Prop}
theorem isD_nil : IsD prog w [] { cls := .type "dict", data := .dict #[] } := by
  have : (({} : Heap).push { cls := .type "dict", data := .dict #[] }).DictOf (intKind prog w) ({} : Heap).objs.size [] := Heap.DictOf.new {}
  obtain ⟨o, ho, h⟩ := Heap.dictOf_iff.mp this
  rw [Heap.get?_push_size _ rfl] at ho
  cases ho
  exact h
/-- a call of a def that gathers its keywords, none given -/
theorem c_defKw {f : Addr} {oc : Value} {od : Option Addr} {osl : Array (Option Value)} {fd : FuncData} {body : List Stmt} {args : Args} {pre : List (Str × Value)} {kn : Str} {n : Nat}
    (X : PF K σ mg mb) (O : Own σ ps s) (hr : Room A (n + 1)) (ho : K.lookup f = some ⟨oc, od, .func fd, osl⟩) (hbody : fd.body = .stmts body)
    (hbind : ∀ (M : Model) (A : Around) (E : Value → Shared → Prop) (Q : List (Str × Value) → Shared → Prop), wpAny M A (do let d ← alloc { cls := .type "dict", data := .dict #[] }; pure (pre ++ [(kn, Value.ref d)])) Q E s → wpAny M A (bindArgs fd args) Q E s)
    (k : ∀ d L s' E', Own σ ((L, IsNs (fun x => (pre ++ [(kn, Value.ref d)]).reverse.lookup x)) :: (d, IsD prog w []) :: ps) s' → Room (A.deeper (callEnv fd L f)) n →
      wpAny (model prog w) (A.deeper (callEnv fd L f)) (execs body (callEnv fd L f)) (fun fl s'' => R (.ok (.ret (match fl with | .ret v => v | _ => .none))) s'') E' s')
    (hcd : codeIn K fd.code fd.qualname = true := by rfl) (hcell : ∀ x ∈ fd.scope.names, x.2 ≠ .cell := by decide) (hloc : ((pre ++ [(kn, Value.none)]).all fun x => decide (fd.scope.names.lookup x.1 = some .local)) = true := by rfl)
    (hco : fd.scope.isCoroutine = false := by rfl) (hgen : fd.scope.isGenerator = false := by rfl) (hk : fd.scope.kind = .function := by rfl) :
    codeAny (model prog w) A (.call (.ref f) args) R s := by
  refine codeAny_call_function (by have := hr.hd; omega) (O.inK X _ _ ho) rfl hco hgen hbody (codeRec_of (O.inK X) hcd) (hbind _ _ _ _ ?_)
  refine wpAny_bind (wpAny_alloc (wpAny_pure ?_))
  have O1 := O.push (o := { cls := .type "dict", data := .dict #[] }) (P := IsD prog w []) isD_nil (t := s.toks)
  have hl : ∀ x ∈ pre ++ [(kn, Value.ref s.heap.objs.size)], fd.scope.names.lookup x.1 = some .local := fun x hx => by
    rcases List.mem_append.mp hx with h | h
    · exact of_decide_eq_true (List.all_eq_true.mp hloc x (List.mem_append_left _ h))
    · rw [List.mem_singleton] at h
      subst h
      exact of_decide_eq_true (List.all_eq_true.mp hloc (kn, Value.none) (List.mem_append_right _ (.head _)))
  refine wpAny_newFunctionEnv hcell hl (fun h₀ hns₀ hsb₀ => ⟨((X.nolimit.keeps O1.keep)).fresh _ hsb₀, codeAny_func ?_⟩) hk
  refine k s.heap.objs.size _ _ _ (O1.add (fun b o hb e => hsb₀.extBut b o ?_ ?_) (ns_iff.mp hns₀)) (hr.deeper _)
  · exact hb
  · exact Heap.get?_push_of_some _ e
end
end Mine
end

-- OwnG
section
open PySem PySem.W PyProof.Rows PySem.Calls
set_option Elab.async false
set_option maxRecDepth 100000
set_option linter.unusedVariables false
namespace Mine
theorem d0_type : checkTypeCall "dict" ⟨[], []⟩ = pure () := by kernel_rfl
theorem d0_new : checkBuiltinCall "dict.__new__" ⟨[.type "dict"], []⟩ = pure () := by kernel_rfl
section
variable {prog : Program} {w : World} {A : Around} {E : Value → Shared → Prop} {σ s : Shared} {env : Env} {ps r r' : List HP} {K : Frag} {mg mb m : Str → Option Value} {R : Result → Shared → Prop} {d e : Addr} {kvs more : List (Int × Value)} {k : Int} {t : Tok} {v dflt : Value}
theorem d0_code {Q₁ : Value → Shared → Prop} (h : Q₁ (.ref s.heap.objs.size) { s with heap := s.heap.push { cls := .type "dict", data := .dict #[] } }) :
    codeAny (model prog w) A (.call (.builtin "dict.__new__") ⟨[.type "dict"], []⟩) (wants Q₁ E) s := by
  refine codeAny_call_builtin PySem.F.kt_plain_dict_new PySem.F.kt_entry_dict_new (wpAny_of_eq d0_new ?_)
  have hsub := PySem.F.kt_sub_dict
  have hmro := PySem.F.kt_mro_dict
  obtain ⟨hp, g, d, tk, os⟩ := s
  unfold Builtin.«dict.__new__»
  wp_walk
  exact h
/-- dict() -/
theorem r_dict0 {Q : Value → Shared → Prop} (O : Own σ ps s) (h : ∀ d s', Own σ ((d, IsD prog w []) :: ps) s' → Q (.ref d) s') : wpAny (model prog w) A (call (.type "dict") []) Q E s := by
  refine callType_codes (Q₁ := fun obj s₁ => obj = .ref s.heap.objs.size ∧ s₁ = { s with heap := s.heap.push { cls := .type "dict", data := .dict #[] } }) PySem.F.kt_called_dict d0_type PySem.F.entry_dict_init (d0_code ⟨rfl, rfl⟩) ?_
  rintro obj s₁ ⟨rfl, rfl⟩
  have hnew : (s.heap.push { cls := .type "dict", data := .dict #[] }).DictOf (intKind prog w) s.heap.objs.size [] := Heap.DictOf.new s.heap
  refine ⟨hnew.typeIs, PySem.F.args_dict_init_1 _, ?_⟩
  unfold Builtin.«dict.__init__»
  refine wpAny_bind ?_
  unfold Builtin.Dict.selfAndRest
  refine wpAny_bind (wpAny_notOrdered_dict hnew.typeIs ?_)
  show wpAny _ _ (pure (s.heap.objs.size, [])) _ _ _
  refine wpAny_pure ?_
  show wpAny _ _ (Builtin.Dict.addKeywords s.heap.objs.size [] >>= _) _ _ _
  exact wpAny_bind (wpAny_pure (wpAny_pure ⟨rfl, h _ _ (O.push (t := s.toks) isD_nil)⟩))
theorem r_methUpdate {pl : Sem Bool} {Q : Value × List Value → Shared → Prop} (O : Own σ ps s) (h : Q (.builtin "dict.update", [.ref d]) s) (hp : Pick d (IsD prog w kvs) ps r) : wpAny (model prog w) A (getMethod (.ref d) "update" pl) Q E s :=
  r_meth O h hp (fun o h => by obtain ⟨_, _, hx, _⟩ := h; exact ⟨hx.1, hx.2.1⟩) PySem.F.plainAttrs_dict PySem.F.slot_dict_update PySem.F.type_dict_update
/-- an update by an empty dict changes nothing -/
theorem r_updE {Q : Value → Shared → Prop} (X : PF K σ mg mb) (O : Own σ ps s) (h : ∀ s', Own σ ps s' → Q .none s') (hp : Pick d (IsD prog w kvs) ps r) (he : Pick e (IsD prog w []) r r') (hsz : kvs.length ≤ sizeLine) :
    wpAny (model prog w) A (call (.builtin "dict.update") [.ref d, .ref e]) Q E s := by
  have O1 := O.front hp
  have hne : d ≠ e := by
    have hn := O1.nd
    rw [List.map_cons, List.nodup_cons] at hn
    intro q
    exact hn.1 (List.mem_map.mpr ⟨_, he.perm.mem_iff.mpr (.head _), q.symm⟩)
  have hd := O.dict hp
  have hed := O1.dict (.there he)
  refine call_meetsIn PySem.F.slot_dict_update hd.typeIs PySem.F.entry_dict_update (PySem.F.args_dict_update_2 _ _) (meets_dict_update (intKind prog w) d e hne (O1.noSys X (.there he))) ⟨kvs, [], hd, hed, by simpa using hsz, fun h' h1 h2 h3 => ?_⟩
  exact h _ ((O.upd (t := s.toks) hp h3.extBut (Heap.dictOf_iff.mp h1)).perm hp.perm.symm)
/-- dict.get with a default -/
theorem r_get2 {Q : Value → Shared → Prop} (X : PF K σ mg mb) (O : Own σ ps s) (h : ∀ s', Own σ ps s' → Q ((valueAt kvs k).getD dflt) s') (hp : Pick d (IsD prog w kvs) ps r) :
    wpAny (model prog w) A (call (.builtin "dict.get") [.ref d, .int k t, dflt]) Q E s :=
  call_meetsIn PySem.F.slot_dict_get (O.dict hp).typeIs PySem.F.entry_dict_get (PySem.F.args_dict_get_3 _ _ _) (meets_dict_get_default (intKind prog w) d (isInt_self k t) (O.noSys X hp) dflt) ⟨_, (O.dict hp).mapOf, h _ O.toks⟩
theorem r_get1 {Q : Value → Shared → Prop} (X : PF K σ mg mb) (O : Own σ ps s) (h : ∀ s', Own σ ps s' → Q ((valueAt kvs k).getD .none) s') (hp : Pick d (IsD prog w kvs) ps r) :
    wpAny (model prog w) A (call (.builtin "dict.get") [.ref d, .int k t]) Q E s :=
  call_meetsIn PySem.F.slot_dict_get (O.dict hp).typeIs PySem.F.entry_dict_get (PySem.F.args_dict_get_2 _ _) (meets_dict_get (intKind prog w) d (isInt_self k t) (O.noSys X hp)) ⟨_, (O.dict hp).mapOf, h _ O.toks⟩
end
end Mine
namespace Mine
open PySem PySem.Calls PyProof.Rows Builtin Builtin.ObjectAttr PySem.W
theorem dict_get_none : specialOf (.type "dict") "__get__" = pure none := by
  show (typeOf (.type "dict") >>= fun t => typeLookup t "__get__") = pure none
  have h1 : typeOf (.type "dict") = pure (.type "type") := by kernel_rfl
  have h2 : typeLookup (.type "type") "__get__" = pure none := by rw [typeLookup_type, builtinLookup_eq_fast]; kernel_rfl
  rw [h1, pure_bind, h2]
theorem looks_findT {K : Frag} {M : Model} {h : Heap} (X : K.In h) {x C : Addr} {ox : Obj} {od : Option Obj} {name : Str} {cd : ClassData} (I : InstAt h x ox C od) (hcd : clsIn K C = some cd) (ha : findIn K (.ref C) name = some (some (.type "dict"))) (ho : ownOf cd od name = some none)
    (hcop : copiedNames.contains name = false) : Looks M h (Builtin.ObjectAttr.find (.ref x) (.ref C) name) (.value (.type "dict")) := by
  have L1 := looks_findIn (M := M) X ha
  have L2 : Looks M h (getOf (some (.type "dict"))) none := Looks.of_pure dict_get_none
  have G : Looks M h (copiedAttributeGuard name (.ref x)) () := by
    unfold copiedAttributeGuard
    dsimp only
    split
    · rename_i q2
      have q2 : copiedNames.contains name = true := q2
      rw [hcop] at q2; cases q2
    · exact .now
  have rest : Looks M h (ownThenClass (.ref x) name (some (.type "dict")) none) (.value (.type "dict")) := by
    refine (looks_own X I hcd ho).andThen ?_
    refine G.andThen ?_
    exact Looks.tag ((Looks.of_pure (handedOut_of rfl)).andThen .now)
  exact L1.andThen (L2.andThen (Looks.now.andThen rest))
section
variable {prog : Program} {w : World} {A : Around} {E : Value → Shared → Prop} {σ s : Shared} {ps r r' : List HP} {K : Frag} {mg mb : Str → Option Value}
/-- dict, borne by the class of an object, called by the object's attribute -/
theorem r_methV {g gd C : Addr} {sl : Array (Option Value)} {kvs : List (Str × Value)} {name : Str} {pl : Sem Bool} {Q : Value × List Value → Shared → Prop} (X : PF K σ mg mb) (O : Own σ ps s) (h : ∀ s', Own σ ps s' → Q (.type "dict", []) s')
    (hg : Pick g (IsO (plainObj C (some gd) sl)) ps r) (hd : Pick gd (IsS prog w kvs) ps r') (hv : valueAt kvs name = none)
    (hcd : (clsIn K C).any (·.hasDict) = true := by rfl) (hcop : copiedNames.contains name = false := by decide)
    (hn : findIn K (.ref C) name = some (some (.type "dict")) := by rfl)
    (hga : findIn K (.ref C) "__getattribute__" = some (some (.builtin "object.__getattribute__")) := by rfl) (hgb : findIn K (.ref C) "__getattr__" = some none := by rfl) : wpAny (model prog w) A (getMethod (.ref g) name pl) Q E s := by
  obtain ⟨od, hS, I⟩ := inst_dict O hg hd
  have KX := O.inK X
  obtain ⟨cd, hc, hdd⟩ := any_some hcd
  have hod : ownOf cd (some od) name = some none := by unfold W.ownOf; rw [hdd]; exact (hS.look name).trans (congrArg some hv)
  have hcan := PySem.F.canon_object_ga
  unfold getMethod specialOf
  refine wpAny_bind (wpAny_bind (I.type.here ((looks_findIn KX hga).here ?_)))
  dsimp only
  rw [hcan, if_neg (by decide)]
  refine wpAny_bind (wpAny_bind (I.type.here ((looks_findIn KX hgb).here ?_)))
  refine wpAny_bind (wpAny_bind (I.type.here ((looks_findIn KX hn).here ?_)))
  have hty : typeOf (.type "dict") = pure (.type "type") := by kernel_rfl
  refine wpAny_bind (wpAny_of_eq hty ?_)
  rw [if_pos (by decide)]
  refine wpAny_bind (get_open KX I hga ?_)
  have O' := O.toks (t := s.toks + 1)
  obtain ⟨hh', gg, dd, t, os⟩ := s
  have L0 := I.type (M := model prog w)
  have L1 := looks_findT (M := model prog w) KX I hc hn hod hcop
  refine wpAny_bind (wpAny_pure (wpAny_bind (L0.at (wpAny_bind (L1.at ?_)))))
  refine wpAny_pure ?_
  show wpAny _ _ (handedOut (.type "dict")) _ _ _
  rw [handedOut_of rfl]; exact wpAny_pure (wpAny_pure (h _ O'))
end
end Mine
end

-- Fam
section
open PySem PySem.W PyProof.Rows PySem.Calls
set_option Elab.async false
set_option maxRecDepth 100000
set_option linter.unusedVariables false
namespace Mine
/-- a function changed at a point -/
def up1 {α : Type} (f : Int → α) (k : Int) (a : α) : Int → α := fun x => if x = k then a else f x
theorem up1_same {α : Type} {f : Int → α} {k : Int} {a : α} : up1 f k a k = a := by simp [up1]
theorem up1_other {α : Type} {f : Int → α} {k x : Int} {a : α} (h : x ≠ k) : up1 f k a x = f x := by simp [up1, h]
/-- a family of things, one for each of a list of ints -/
abbrev fam (P : Int → Obj → Prop) (ra : Int → Addr) (N : List Int) : List HP := N.map fun u => (ra u, P u)
theorem map_up1 {α β : Type} {f : Int → α} {k : Int} {a : α} {N : List Int} (h : k ∉ N) (g : Int → α → β) : N.map (fun u => g u (up1 f k a u)) = N.map fun u => g u (f u) :=
  List.map_congr_left fun u hu => by
    have q : u ≠ k := fun e => h (by rw [← e]; exact hu)
    rw [up1_other q]
theorem fam_new {P : Int → Obj → Prop} {ra : Int → Addr} {N : List Int} {k : Int} {a : Addr} (h : k ∉ N) : fam P (up1 ra k a) (N ++ [k]) = fam P ra N ++ [(a, P k)] := by
  unfold fam
  rw [List.map_append, map_up1 h fun u x => ((x, P u) : HP)]
  simp [up1_same]
theorem vAt_none {f : Int → Value} {N : List Int} {k : Int} (h : k ∉ N) : valueAt (N.map fun u => (u, f u)) k = none := by
  refine valueAt_none_of_not_mem ?_
  rw [List.map_map]
  intro hm
  obtain ⟨u, hu, rfl⟩ := List.mem_map.mp hm
  exact h hu
theorem vAt_some {f : Int → Value} {N : List Int} {k : Int} (h : k ∈ N) : valueAt (N.map fun u => (u, f u)) k = some (f k) := by
  unfold valueAt
  induction N with
  | nil => cases h
  | cons x N ih =>
    rw [List.map_cons, List.find?_cons]
    by_cases e : x = k
    · subst e; simp
    · simp only [e, decide_false]
      rcases List.mem_cons.mp h with q | q
      · exact absurd q.symm e
      · exact ih q
theorem vAt_isSome {f : Int → Value} {N : List Int} {k : Int} : (valueAt (N.map fun u => (u, f u)) k).isSome = decide (k ∈ N) := by
  by_cases h : k ∈ N
  · rw [vAt_some h]; simp [h]
  · rw [vAt_none h]; simp [h]
theorem dict_new {ra : Int → Addr} {N : List Int} {k : Int} {a : Addr} (h : k ∉ N) : stored (N.map fun u => (u, (.ref (ra u) : Value))) k (.ref a) = (N ++ [k]).map fun u => (u, .ref (up1 ra k a u)) := by
  rw [stored_absent (vAt_none h), List.map_append, map_up1 h fun u x => (u, (.ref x : Value))]
  simp [up1_same]
theorem pick_fam1 {P : Int → Obj → Prop} {ra : Int → Addr} {N : List Int} {u : Int} (hn : N.Nodup) (hu : u ∈ N) : ∃ r, Pick (ra u) (P u) (fam P ra N) r ∧ ∀ Q, (((ra u, Q) : HP) :: r).Perm (fam (fun x => if x = u then Q else P x) ra N) := by
  obtain ⟨l1, l2, rfl⟩ := List.append_of_mem hu
  refine ⟨fam P ra l1 ++ fam P ra l2, ?_, fun Q => ?_⟩
  · unfold fam
    rw [List.map_append, List.map_cons]
    exact .right .here
  · obtain ⟨_, h2, h3⟩ := List.nodup_append.mp hn
    obtain ⟨h4, h5⟩ := List.nodup_cons.mp h2
    have a1 : ∀ l : List Int, (∀ q ∈ l, q ≠ u) → fam (fun x => if x = u then Q else P x) ra l = fam P ra l := fun l hl => List.map_congr_left fun q hq => by simp [hl q hq]
    have e : fam (fun x => if x = u then Q else P x) ra (l1 ++ u :: l2) = fam P ra l1 ++ (ra u, Q) :: fam P ra l2 := by
      conv => lhs; unfold fam
      rw [List.map_append, List.map_cons]
      have b1 := a1 l1 fun q hq z => h3 _ hq _ (.head _) z
      have b2 := a1 l2 fun q hq z => h4 (z ▸ hq)
      unfold fam at b1 b2 ⊢
      rw [b1, b2]
      simp
    rw [e]
    exact List.perm_middle.symm
theorem mem_keys_stored {kvs : List (Int × Value)} {k : Int} {v : Value} {x : Int} : x ∈ (stored kvs k v).map (·.1) ↔ x = k ∨ x ∈ kvs.map (·.1) := by
  unfold stored
  split
  · rename_i h
    have e : (kvs.map fun kv => if kv.1 = k then (kv.1, v) else kv).map (·.1) = kvs.map (·.1) := by
      rw [List.map_map]
      refine List.map_congr_left fun kv _ => ?_
      simp only [Function.comp]
      split <;> rfl
    rw [e]
    constructor
    · exact .inr
    · rintro (rfl | q)
      · obtain ⟨kv, hm, hk⟩ := List.any_eq_true.mp h
        exact List.mem_map.mpr ⟨kv, hm, of_decide_eq_true hk⟩
      · exact q
  · rw [List.map_append, List.mem_append]
    simp [or_comm]
theorem mem_stored {kvs : List (Int × Value)} {k : Int} {v : Value} {p : Int × Value} (h : p ∈ stored kvs k v) : p.2 = v ∨ p ∈ kvs := by
  unfold stored at h
  split at h
  · obtain ⟨kv, hm, rfl⟩ := List.mem_map.mp h
    split
    · exact .inl rfl
    · exact .inr hm
  · rcases List.mem_append.mp h with q | q
    · exact .inr q
    · rw [List.mem_singleton] at q; exact .inl (by rw [q])
end Mine
end

-- Tup
section
open PySem PySem.W PyProof.Rows PySem.Calls
set_option Elab.async false
set_option maxRecDepth 100000
set_option linter.unusedVariables false
namespace Mine
section
variable {prog : Program} {w : World} {A : Around} {E : Value → Shared → Prop} {σ s : Shared} {env : Env} {ps r r' : List HP} {K : Frag} {mg mb m : Str → Option Value} {d e t : Addr} {vs : List Value}
theorem isTup_of (O : Own σ ps s) (hp : Pick t (IsT vs) ps r) : IsTup s.heap t vs.toArray := by
  obtain ⟨o, ho, n, rfl⟩ := O.get hp; exact ⟨_, ho, rfl, n, rfl⟩
/-- a tuple's items to names, in turn -/
theorem r_unpack2 {x y : Expr} {k : Nat} {pos : Pos} {v u : Value} {Q : Unit → Shared → Prop} (O : Own σ ps s) (hh : A.handled = none) (hp : Pick t (IsT [v, u]) ps r)
    (hn : (assignEach [x, y] env).length = 2) (hstar : (assignEach [x, y] env).findIdx? (·.1) = none) (he : (assignEach [x, y] env).map (·.2) = [assign x env, assign y env])
    (h : ∀ s', Own σ ps s' → wpAny (model prog w) A (assign x env v) (fun _ s₁ => wpAny (model prog w) A (assign y env u) Q E s₁) E s') : wpAny (model prog w) A (assign (.Tuple [x, y] k pos) env (.ref t)) Q E s := by
  refine assign_Tuple_tuple hh (isTup_of O hp) hn hstar fun h' hx => ?_
  rw [he]
  have O' := O.stays (t := s.toks) fun b o q => hx b o (Nat.ne_of_lt (Heap.lt_size q)) q
  exact assignInOrder_cons (wpAny_mono (h _ O') (fun _ s₁ z => assignInOrder_cons (wpAny_mono z (fun _ _ z => assignInOrder_nil z) fun _ _ z => z)) fun _ _ z => z)
theorem r_lenT {Q : Value → Shared → Prop} (O : Own σ ps s) (hp : Pick t (IsT vs) ps r) (hz : vs.length ≤ 1000) (h : ∀ u s', Own σ ps s' → Q (.int vs.length u) s') : wpAny (model prog w) A (call (.builtin "len") [.ref t]) Q E s := by
  obtain ⟨o, ho, n, rfl⟩ := O.get hp
  have hT : s.TypeIs (.ref t) "tuple" := ⟨_, ho, rfl⟩
  refine call_function_entry kind_len plain_len entry_len (args_len1 _) ?_
  unfold Builtin.«len»
  refine wpAny_bind (m := oneArg "len" _) (wpAny_pure ?_)
  refine wpAny_bind (m := callSpecial? (.ref t) (Str.ofString "__len__")) (wpAny_callSpecial?_slot (name := Str.ofString "__len__") hT PySem.F.slot_tuple_len
    (call_meetsIn PySem.F.slot_tuple_len hT PySem.F.entry_tuple_len (PySem.F.args_tuple_len_1 _) ((PySem.AutoSeq1.tuple___len___tuple_0 t vs.toArray n).inModel _ _) ⟨ho, ?_⟩))
  refine wpAny_bind (wpAny_holding (wpAny_pure ?_))
  refine wpAny_bind (wpAny_letGo ?_)
  show wpAny _ _ (if ((vs.toArray.size : Nat) : Int) < 0 then _ else _) _ _ _
  rw [if_neg (by omega)]
  have hs : vs.toArray.size = vs.length := by simp
  show wpAny _ _ (if ((vs.toArray.size : Nat) : Int) ≥ 2 ^ 63 then _ else _) _ _ _
  rw [hs, if_neg (by omega)]
  exact wpAny_bind (wpAny_mkInt (wpAny_pure ⟨_, rfl, h _ _ (O.toks (t := s.toks + 1 + 1))⟩))
theorem r_newDict {Q : Value → Shared → Prop} (O : Own σ ps s) (h : ∀ d s', Own σ ((d, IsD prog w []) :: ps) s' → Q (.ref d) s') : wpAny (model prog w) A newDict Q E s :=
  wpAny_newObj_type (h _ _ (O.push isD_nil)) (Nat.zero_le _)
theorem r_Dict0 {pos : Pos} {Q : Value → Shared → Prop} (O : Own σ ps s) (h : ∀ d s', Own σ ((d, IsD prog w []) :: ps) s' → Q (.ref d) s') : wpAny (model prog w) A (eval (.Dict [] [] pos) env) Q E s := by
  rw [eval_Dict_empty]
  exact wpAny_bind (wpAny_standAt (r_newDict O h))
end
end Mine
end

-- Comp
section
open PySem PySem.W PyProof.Rows PySem.Calls
set_option Elab.async false
set_option maxRecDepth 100000
set_option maxHeartbeats 1000000
set_option linter.unusedVariables false
namespace Mine

/-- an iterator's object that gives those ints in turn -/
structure IterOn (prog : Program) (w : World) (I : Addr) (xs : List Int) (It : Nat → Obj → Prop) (Need : List HP → Prop) : Prop where
  next : ∀ {A : Around} {E : Value → Shared → Prop} {σ s : Shared} {ps : List HP} {i : Nat} {x : Int} {Q : Option Value → Shared → Prop}, Need ps → Own σ ((I, It i) :: ps) s → xs[i]? = some x → (∀ t s', Own σ ((I, It (i + 1)) :: ps) s' → Q (some (.int x t)) s') → wpAny (model prog w) A (pyNext (.ref I)) Q E s
  stop : ∀ {A : Around} {E : Value → Shared → Prop} {σ s : Shared} {ps : List HP} {i : Nat} {Q : Option Value → Shared → Prop}, A.handled = none → Need ps → Own σ ((I, It i) :: ps) s → xs.length ≤ i → (∀ s', Own σ ps s' → Q none s') → wpAny (model prog w) A (pyNext (.ref I)) Q E s
  self : ∀ {A : Around} {E : Value → Shared → Prop} {σ s : Shared} {ps : List HP} {i : Nat} {Q : Value → Shared → Prop}, Own σ ((I, It i) :: ps) s → Q (.ref I) s → wpAny (model prog w) A (pyIter (.ref I)) Q E s

section
variable {prog : Program} {w : World}
theorem iterI {I l : Addr} {xs : List Int} : IterOn prog w I xs (IsLI l) (fun ps => ∃ r, Pick l (IsI xs) ps r) where
  next := fun ⟨_, hp⟩ O hx h => r_nextI O hx h hp
  stop := fun hh ⟨_, hp⟩ O hx h => r_endI O hh (List.getElem?_eq_none hx) h hp
  self := fun O h => by
    obtain ⟨o, ho, h1, h2⟩ := O.get .here
    exact wpAny_pyIter_listiter ⟨o, ho, h1, h2⟩ h
theorem iterDk {I d : Addr} {kvs : List (Int × Value)} {ep : Nat} : IterOn prog w I (kvs.map (·.1)) (fun i => IsKI d i kvs.length ep) (fun ps => ∃ r, Pick d (IsDe prog w kvs ep) ps r) where
  next := fun {A E σ s ps i x Q} ⟨_, hp⟩ O hx h => by
    rw [List.getElem?_map] at hx
    obtain ⟨⟨k, v⟩, hk, rfl⟩ := Option.map_eq_some_iff.mp hx
    exact r_nextD O hk h hp
  stop := fun hh ⟨_, hp⟩ O hx h => r_endD O hh (List.getElem?_eq_none (by rwa [List.length_map] at hx)) h hp
  self := fun O h => by
    obtain ⟨o, ho, h1, h2⟩ := O.get .here
    exact wpAny_pyIter_keyiter ⟨o, ho, h1, h2⟩ h
def rangeI (n : Nat) : List Int := (List.range n).map fun (i : Nat) => Int.ofNat i
theorem rangeI_len {n : Nat} : (rangeI n).length = n := by simp [rangeI]
theorem rangeI_at {n i : Nat} (h : i < n) : (rangeI n)[i]? = some (Int.ofNat i) := by
  unfold rangeI
  rw [List.getElem?_map, List.getElem?_range h]; rfl
theorem rangeI_get {n i : Nat} {x : Int} (h : (rangeI n)[i]? = some x) : x = Int.ofNat i ∧ i < n := by
  rcases Nat.lt_or_ge i n with q | q
  · rw [rangeI_at q] at h; cases h; exact ⟨rfl, q⟩
  · rw [List.getElem?_eq_none (by rw [rangeI_len]; exact q)] at h; cases h
theorem mem_rangeI {n : Nat} {x : Int} : x ∈ rangeI n ↔ 0 ≤ x ∧ x < n := by
  unfold rangeI
  rw [List.mem_map]
  constructor
  · rintro ⟨i, hi, rfl⟩
    have := List.mem_range.mp hi
    exact ⟨Int.natCast_nonneg i, Int.ofNat_lt.mpr this⟩
  · rintro ⟨h1, h2⟩
    refine ⟨x.toNat, List.mem_range.mpr (by omega), ?_⟩
    show ((x.toNat : Nat) : Int) = x
    omega
theorem iterRg {I : Addr} {n : Nat} : IterOn prog w I (rangeI n) (fun i => IsRI i ((n : Int) - i) 1) (fun _ => True) where
  next := fun {A E σ s ps i x Q} _ O hx h => by
    obtain ⟨rfl, hi⟩ := rangeI_get hx
    obtain ⟨o, ho, rfl⟩ := O.get .here
    refine wpAny_pyNext_range_item ho (by omega) fun h' hit hs => h s.toks _ (O.upd (t := s.toks + 1) .here hs.extBut ⟨_, hit, ?_⟩)
    have e1 : (i : Int) + 1 = ((i + 1 : Nat) : Int) := by push_cast; rfl
    have e2 : (n : Int) - i - 1 = (n : Int) - ((i + 1 : Nat) : Int) := by push_cast; omega
    rw [e1, e2]; rfl
  stop := fun {A E σ s ps i Q} hh _ O hx h => by
    obtain ⟨o, ho, rfl⟩ := O.get .here
    rw [rangeI_len] at hx
    exact wpAny_pyNext_range_end hh ho (by omega) fun h' hs => h _ (O.gone (t := s.toks) .here hs)
  self := fun O h => by
    obtain ⟨o, ho, rfl⟩ := O.get .here
    exact wpAny_pyIter_rangeiter ho h
def IsRg (n : Int) (o : Obj) : Prop := ∃ t u v : Tok, o = { cls := .type "range", dict := none, data := .fields #[.int 0 t, .int n u, .int 1 v], slots := #[] }
section
variable {A : Around} {E : Value → Shared → Prop} {σ s : Shared} {ps r r' : List HP} {a : Addr} {n : Nat} {t : Tok}
theorem r_range {Q : Value → Shared → Prop} (O : Own σ ps s) (h : ∀ a s', Own σ ((a, IsRg n) :: ps) s' → Q (.ref a) s') : wpAny (model prog w) A (call (.type "range") [.int (n : Int) t]) Q E s := by
  exact call_range_1 (h _ _ (O.push (P := IsRg n) ⟨_, _, _, rfl⟩))
theorem r_iterRange {Q : Value → Shared → Prop} (O : Own σ ps s) (hp : Pick a (IsRg n) ps r) (hn : n ≤ 1000) (h : ∀ I s', Own σ ((I, IsRI (0 : Nat) ((n : Int) - (0 : Nat)) 1) :: ps) s' → Q (.ref I) s') : wpAny (model prog w) A (pyIter (.ref a)) Q E s := by
  obtain ⟨o, ho, t, u, v, rfl⟩ := O.get hp
  have hsz : Builtin.Range.rangeSize 0 (n : Int) 1 = n := by
    unfold Builtin.Range.rangeSize
    rw [if_pos (by decide)]
    split
    · omega
    · omega
  refine wpAny_pyIter_range ho ?_ (h _ _ (O.push (t := s.toks) ?_))
  · unfold Builtin.Range.small Builtin.Range.rangeFitsLong
    rw [hsz]
    simp
    omega
  · rw [hsz]
    show _ = _
    simp
end
end
section
variable {prog : Program} {w : World} {A : Around} {E : Value → Shared → Prop} {σ s : Shared} {env : Env} {ps r r' : List HP} {R : Result → Shared → Prop}
/-- the last clause of a list comprehension: its turns -/
theorem comp_last {elt iter : Expr} {y : Str} {py : Pos} {ifs : List Expr} {gens : List Comprehension} {scope : Scope} {pos : Pos} {depth : Nat} {I acc C : Addr} {xs : List Int} {It : Nat → Obj → Prop} {Need : List HP → Prop} {cenv : Env} {m : Str → Option Value} {outs : List Value} {i : Nat}
    (hg : gens[depth]? = some ⟨.Name y py, iter, ifs, 0⟩) (hg' : gens[depth + 1]? = none) (IO : IterOn prog w I xs It Need) (hh : A.handled = none) (hC : cenv.locals = C) (hk : cenv.kindOf y = some .local) (hq : (cenv.scope.kind == .class || (cenv.scope.kind == .module && cenv.locals != cenv.globals)) = false)
    (Mok : (Str → Option Value) → Prop) (hM : ∀ m v, Mok m → Mok (upd m y v)) (Ok : Nat → List Value → Prop) (hz : ∀ i outs, Ok i outs → outs.length ≤ 1000) (J : Nat → List Value → List HP) (hN : ∀ i outs m, Need ((C, IsNs m) :: (acc, IsL outs) :: J i outs))
    (O : Own σ ((C, IsNs m) :: (acc, IsL outs) :: (I, It i) :: J i outs) s) (hm : Mok m) (ho : Ok i outs) (hi : i ≤ xs.length)
    (turn : ∀ i x t m outs s E', xs[i]? = some x → Mok m → m y = some (.int x t) → Ok i outs → Own σ ((C, IsNs m) :: (acc, IsL outs) :: (I, It (i + 1)) :: J i outs) s →
      wpAny (model prog w) A (forIn ifs true fun c r => if r = true then do let ok ← isTrue c cenv (eval c cenv); pure (ForInStep.yield ok) else pure (ForInStep.yield r))
        (fun ok s₃ => if ok = true then wpAny (model prog w) A (eval elt cenv) (fun v s₄ => Ok (i + 1) (outs ++ [v]) ∧ Own σ ((C, IsNs m) :: (acc, IsL outs) :: (I, It (i + 1)) :: J (i + 1) (outs ++ [v])) s₄) E' s₃
          else Ok (i + 1) outs ∧ Own σ ((C, IsNs m) :: (acc, IsL outs) :: (I, It (i + 1)) :: J (i + 1) outs) s₃) E' s)
    (fin : ∀ m outs s, Mok m → Ok xs.length outs → Own σ ((C, IsNs m) :: (acc, IsL outs) :: J xs.length outs) s → R (.ok .next) s) :
    codeAny (model prog w) A (.compLoop (.ListComp elt gens scope pos) depth (.ref I) (.ref acc) cenv) R s := by
  refine codeAny_loop rfl (fun k s => ∃ (i : Nat) (m : Str → Option Value) (outs : List Value), k = xs.length - i ∧ i ≤ xs.length ∧ Mok m ∧ Ok i outs ∧ Own σ ((C, IsNs m) :: (acc, IsL outs) :: (I, It i) :: J i outs) s) (fun n s hI => ?_) _ ⟨i, m, outs, rfl, hi, hm, ho, O⟩
  obtain ⟨i, m, outs, rfl, hi, hm, ho, O⟩ := hI
  show wpAny _ _ ((compTurn (.ListComp elt gens scope pos) depth (.ref I) (.ref acc) cenv).onRaise (fun x => do noteFrame x cenv; theTreesLotGoes x)) _ _ s
  refine wpAny_noted ?_
  unfold compTurn
  dsimp only
  rw [hg]
  dsimp only
  refine wpAny_bind (wpAny_standAt ?_)
  rw [if_neg (by decide)]
  have O1 := O.to (qs := (I, It i) :: (C, IsNs m) :: (acc, IsL outs) :: J i outs)
  rcases Nat.lt_or_ge i xs.length with hlt | hge
  · refine wpAny_bind (IO.next (hN i outs m) O1 (List.getElem?_eq_getElem hlt) fun t s1 O2 => ?_)
    dsimp only
    refine wpAny_bind (wpAny_of_eq (a := ()) (by rfl) ?_)
    subst hC
    refine wpAny_bind (wpAny_assign_Name (r_st O2 (fun s2 O3 => ?_) (hp := .there .here) (hl := hk) (hq := hq)))
    have O4 := O3.to (qs := (cenv.locals, IsNs (upd m y (.int xs[i] t))) :: (acc, IsL outs) :: (I, It (i + 1)) :: J i outs)
    refine wpAny_bind (wpAny_mono (turn i xs[i] t _ outs s2 _ (List.getElem?_eq_getElem hlt) (hM _ _ hm) (upd_same _ _ _) ho O4) (fun ok s3 h3 => ?_) fun _ _ h' => h')
    cases ok with
    | false =>
      simp only [if_false, Bool.false_eq_true] at h3 ⊢
      exact wpAny_pure ⟨rfl, xs.length - (i + 1), by omega, i + 1, _, outs, rfl, hlt, hM _ _ hm, h3.1, h3.2⟩
    | true =>
      simp only [if_true] at h3 ⊢
      rw [hg']
      dsimp only
      refine wpAny_bind (wpAny_bind (wpAny_mono h3 (fun v s4 h4 => ?_) fun _ _ h' => h'))
      obtain ⟨ho4, O5⟩ := h4
      refine wpAny_bind (r_append (d := acc) O5 (fun s5 O6 => wpAny_pure ?_) (.there .here) (by have := hz _ _ ho; rw [sizeLine_eq]; omega))
      exact wpAny_pure ⟨rfl, xs.length - (i + 1), by omega, i + 1, _, outs ++ [v], rfl, hlt, hM _ _ hm, ho4, O6.to⟩
  · have hie : i = xs.length := by omega
    subst hie
    refine wpAny_bind (IO.stop hh (hN _ outs m) O1 (Nat.le_refl _) fun s1 O2 => ?_)
    exact wpAny_pure (fin m outs s1 hm ho O2)
end
end Mine
end

-- Comp2
section
open PySem PySem.W PyProof.Rows PySem.Calls
set_option Elab.async false
set_option maxRecDepth 100000
set_option maxHeartbeats 1000000
set_option linter.unusedVariables false
namespace Mine
section
variable {prog : Program} {w : World} {A : Around} {E : Value → Shared → Prop} {σ s : Shared} {env : Env} {ps r r' : List HP} {R : Result → Shared → Prop}
theorem ns_empty {m : Str → Option Value} : (fun x => List.lookup x ([] : List (Str × Value)).reverse) = fun _ => none := rfl
/-- a list comprehension: its source, then its frame and its list, then the turns -/
theorem r_comp {elt target iter : Expr} {ifs : List Expr} {gs : List Comprehension} {scope : Scope} {pos : Pos} {cl : List (Str × Addr)} {Q : Value → Shared → Prop}
    (hclos : closureFor scope env = pure cl) (hcell : ∀ y ∈ scope.names, y.2 ≠ .cell) (hkind : scope.kind = .function) (hnames : ∀ y ∈ scope.names, y.2 = .local → scope.names.lookup y.1 = some .local)
    (h : wpAny (model prog w) A (eval iter env) (fun x s1 => wpAny (model prog w) A (pyIter x) (fun it s2 => ∃ I It ps2, it = .ref I ∧ Own σ ((I, It) :: ps2) s2 ∧
      (∀ {A : Around} {E : Value → Shared → Prop} {s : Shared} {ps : List HP} {Q : Value → Shared → Prop}, Own σ ((I, It) :: ps) s → Q (.ref I) s → wpAny (model prog w) A (pyIter (.ref I)) Q E s) ∧
      ∀ acc C s3, Own σ ((C, IsNs fun _ => none) :: (acc, IsL []) :: (I, It) :: ps2) s3 → codeAny (model prog w) A (.compLoop (.ListComp elt (⟨target, iter, ifs, 0⟩ :: gs) scope pos) 0 (.ref I) (.ref acc) (compEnvC scope cl C env))
        (fun r s' => r = .ok .next ∧ ∃ m ps4, Own σ ((C, IsNs m) :: ps4) s' ∧ ∀ s'', Own σ ps4 s'' → Q (.ref acc) s'') s3) E s1) E s)
    (hs : ∀ x, foldedSetIterable iter env x = pure x := by intro _; rfl) :
    wpAny (model prog w) A (eval (.ListComp elt (⟨target, iter, ifs, 0⟩ :: gs) scope pos) env) Q E s := by
  rw [eval_ListComp]
  refine wpAny_comprehension_free (use := none) rfl hs hclos hkind hnames (wpAny_mono h (fun x s1 h1 => wpAny_mono h1 (fun it s2 h2 => ?_) fun _ _ e => e) fun _ _ e => e)
  obtain ⟨I, It, ps2, rfl, O2, hself, hrun⟩ := h2
  refine r_newList O2 fun acc s3 O3 => ?_
  refine wpAny_newFunctionEnv hcell (by intro y hy; simp at hy) (fun h₁ hns₁ hsb₁ => ?_) hkind
  have O4 : Own σ ((s3.heap.objs.size, IsNs fun _ => none) :: (acc, IsL []) :: (I, It) :: ps2) { s3 with heap := h₁, toks := s3.toks + ([] : List (Str × Value)).length } :=
    O3.add (fun b o hb e => hsb₁.extBut b o hb (Heap.get?_push_of_some _ e)) (ns_iff.mp hns₁)
  have hl : ∀ s4, s4 = { s3 with heap := h₁, toks := s3.toks + ([] : List (Str × Value)).length } → codeAny (model prog w) A (.compLoop (.ListComp elt (⟨target, iter, ifs, 0⟩ :: gs) scope pos) 0 (.ref I) (.ref acc) (compEnvC scope cl s3.heap.objs.size env)) (compPost (model prog w) A E none Q (.ref acc) s3.heap.objs.size) s4 := by
    rintro s4 rfl
    refine codeAny_mono (hrun acc _ _ O4) fun r s' hr => ?_
    obtain ⟨rfl, m, ps4, O5, hQ⟩ := hr
    exact ⟨m, ns_iff.mpr (O5.get .here), fun h' hs' => hQ _ (O5.gone (t := s'.toks) .here hs'.extBut)⟩
  exact codeAny_compStart_list (hl _ rfl) (hself (O4.to (qs := (I, It) :: (s3.heap.objs.size, IsNs fun _ => none) :: (acc, IsL []) :: ps2)) (hl _ rfl))
/-- a name given a list comprehension: the store comes before the comprehension's frame goes -/
theorem r_compAssign {elt target iter : Expr} {ifs : List Expr} {gs : List Comprehension} {scope : Scope} {pos spos py : Pos} {y : Str} {cl : List (Str × Addr)} {Q : Flow → Shared → Prop}
    (hsw : swapsWith (.ListComp elt (⟨target, iter, ifs, 0⟩ :: gs) scope pos) (some (.Name y py)) spos.line env = pure true)
    (hclos : closureFor scope env = pure cl) (hcell : ∀ y ∈ scope.names, y.2 ≠ .cell) (hkind : scope.kind = .function) (hnames : ∀ y ∈ scope.names, y.2 = .local → scope.names.lookup y.1 = some .local)
    (h : wpAny (model prog w) A (eval iter env) (fun x s1 => wpAny (model prog w) A (pyIter x) (fun it s2 => ∃ I It ps2, it = .ref I ∧ Own σ ((I, It) :: ps2) s2 ∧
      (∀ {A : Around} {E : Value → Shared → Prop} {s : Shared} {ps : List HP} {Q : Value → Shared → Prop}, Own σ ((I, It) :: ps) s → Q (.ref I) s → wpAny (model prog w) A (pyIter (.ref I)) Q E s) ∧
      ∀ acc C s3, Own σ ((C, IsNs fun _ => none) :: (acc, IsL []) :: (I, It) :: ps2) s3 → codeAny (model prog w) A (.compLoop (.ListComp elt (⟨target, iter, ifs, 0⟩ :: gs) scope pos) 0 (.ref I) (.ref acc) (compEnvC scope cl C env))
        (fun r s' => r = .ok .next ∧ wpAny (model prog w) A (assign (.Name y py) env (.ref acc)) (fun _ s'' => ∃ m ps5, Own σ ((C, IsNs m) :: ps5) s'' ∧ ∀ s3, Own σ ps5 s3 → Q .next s3) E s') s3) E s1) E s)
    (hs : ∀ x, foldedSetIterable iter env x = pure x := by intro _; rfl) :
    wpAny (model prog w) A (exec (.Assign [.Name y py] (.ListComp elt (⟨target, iter, ifs, 0⟩ :: gs) scope pos) spos) env) Q E s := by
  rw [exec_Assign_Name_used _ _ _ _ hsw]
  refine wpAny_bind (wpAny_standAt (wpAny_bind ?_))
  show wpAny _ A (do let _ ← comprehension (.ListComp elt (⟨target, iter, ifs, 0⟩ :: gs) scope pos) scope env _ (newList []) false (eval iter env) (some (assign (.Name y py) env))) _ _ s
  refine wpAny_bind (wpAny_mono (wpAny_comprehension_free (use := some (assign (.Name y py) env)) (Q := fun _ s' => Q .next s') rfl hs hclos hkind hnames
    (wpAny_mono h (fun xv s₁ h₁ => wpAny_mono h₁ (fun it s₂ h₂ => ?_) fun _ _ e => e) fun _ _ e => e)) (fun _ s' hq => wpAny_pure (wpAny_pure hq)) fun _ _ e => e)
  obtain ⟨I, It, ps2, rfl, O2, hself, hrun⟩ := h₂
  refine r_newList O2 fun acc s3 O3 => ?_
  refine wpAny_newFunctionEnv hcell (by intro y hy; simp at hy) (fun h₁ hns₁ hsb₁ => ?_) hkind
  have O4 : Own σ ((s3.heap.objs.size, IsNs fun _ => none) :: (acc, IsL []) :: (I, It) :: ps2) { s3 with heap := h₁, toks := s3.toks + ([] : List (Str × Value)).length } :=
    O3.add (fun b o hb e => hsb₁.extBut b o hb (Heap.get?_push_of_some _ e)) (ns_iff.mp hns₁)
  have hl : ∀ s4, s4 = { s3 with heap := h₁, toks := s3.toks + ([] : List (Str × Value)).length } → codeAny (model prog w) A (.compLoop (.ListComp elt (⟨target, iter, ifs, 0⟩ :: gs) scope pos) 0 (.ref I) (.ref acc) (compEnvC scope cl s3.heap.objs.size env)) (compPost (model prog w) A E (some (assign (.Name y py) env)) (fun _ s' => Q .next s') (.ref acc) s3.heap.objs.size) s4 := by
    rintro s4 rfl
    refine codeAny_mono (hrun acc _ _ O4) fun r s' hr => ?_
    obtain ⟨rfl, hr⟩ := hr
    refine wpAny_mono hr (fun _ s'' hq => ?_) fun _ _ e => e
    obtain ⟨m, ps5, O5, hQ⟩ := hq
    exact ⟨m, ns_iff.mpr (O5.get .here), fun h' hs' => hQ _ (O5.gone (t := s''.toks) .here hs'.extBut)⟩
  exact codeAny_compStart_list (hl _ rfl) (hself (O4.to (qs := (I, It) :: (s3.heap.objs.size, IsNs fun _ => none) :: (acc, IsL []) :: ps2)) (hl _ rfl))

/-- the first of two clauses -/
theorem comp_outer {elt iter iter2 : Expr} {y : Str} {py : Pos} {target2 : Expr} {ifs2 : List Expr} {scope : Scope} {pos : Pos} {I acc C : Addr} {xs : List Int} {It : Nat → Obj → Prop} {Need : List HP → Prop} {cenv : Env} {m : Str → Option Value} {outs : List Value} {i : Nat}
    (IO : IterOn prog w I xs It Need) (hh : A.handled = none) (hC : cenv.locals = C) (hk : cenv.kindOf y = some .local) (hq : (cenv.scope.kind == .class || (cenv.scope.kind == .module && cenv.locals != cenv.globals)) = false)
    (Ok : Nat → List Value → Prop) (J : Nat → List Value → List HP) (hN : ∀ i outs m, Need ((C, IsNs m) :: (acc, IsL outs) :: J i outs))
    (O : Own σ ((C, IsNs m) :: (acc, IsL outs) :: (I, It i) :: J i outs) s) (ho : Ok i outs) (hi : i ≤ xs.length)
    (turn : ∀ i x t m outs s (Q : Shared → Prop) E', xs[i]? = some x → m y = some (.int x t) → Ok i outs → Own σ ((C, IsNs m) :: (acc, IsL outs) :: (I, It (i + 1)) :: J i outs) s →
      (∀ m outs s, Ok (i + 1) outs → Own σ ((C, IsNs m) :: (acc, IsL outs) :: (I, It (i + 1)) :: J (i + 1) outs) s → Q s) →
      wpAny (model prog w) A (eval iter2 cenv) (fun x s₁ => wpAny (model prog w) A (pyIter x) (fun it s₂ => codeAny (model prog w) A (.compStart (.ListComp elt [⟨.Name y py, iter, [], 0⟩, ⟨target2, iter2, ifs2, 0⟩] scope pos) 1 it (.ref acc) cenv) (fun r s' => r = .ok .next ∧ Q s') s₂) E' s₁) E' s)
    (fin : ∀ m outs s, Ok xs.length outs → Own σ ((C, IsNs m) :: (acc, IsL outs) :: J xs.length outs) s → R (.ok .next) s)
    (hs : ∀ x, foldedSetIterable iter2 cenv x = pure x := by intro _; rfl) :
    codeAny (model prog w) A (.compLoop (.ListComp elt [⟨.Name y py, iter, [], 0⟩, ⟨target2, iter2, ifs2, 0⟩] scope pos) 0 (.ref I) (.ref acc) cenv) R s := by
  refine codeAny_loop rfl (fun k s => ∃ (i : Nat) (m : Str → Option Value) (outs : List Value), k = xs.length - i ∧ i ≤ xs.length ∧ Ok i outs ∧ Own σ ((C, IsNs m) :: (acc, IsL outs) :: (I, It i) :: J i outs) s) (fun n s hI => ?_) _ ⟨i, m, outs, rfl, hi, ho, O⟩
  obtain ⟨i, m, outs, rfl, hi, ho, O⟩ := hI
  show wpAny _ _ ((compTurn (.ListComp elt [⟨.Name y py, iter, [], 0⟩, ⟨target2, iter2, ifs2, 0⟩] scope pos) 0 (.ref I) (.ref acc) cenv).onRaise (fun x => do noteFrame x cenv; theTreesLotGoes x)) _ _ s
  refine wpAny_noted ?_
  unfold compTurn
  dsimp only
  refine wpAny_bind (wpAny_standAt ?_)
  rw [if_neg (by simp)]
  have O1 := O.to (qs := (I, It i) :: (C, IsNs m) :: (acc, IsL outs) :: J i outs)
  rcases Nat.lt_or_ge i xs.length with hlt | hge
  · refine wpAny_bind (IO.next (hN i outs m) O1 (List.getElem?_eq_getElem hlt) fun t s1 O2 => ?_)
    dsimp only
    refine wpAny_bind (wpAny_of_eq (a := ()) (by rfl) ?_)
    subst hC
    refine wpAny_bind (wpAny_assign_Name (r_st O2 (fun s2 O3 => ?_) (hp := .there .here) (hl := hk) (hq := hq)))
    have O4 := O3.to (qs := (cenv.locals, IsNs (upd m y (.int xs[i] t))) :: (acc, IsL outs) :: (I, It (i + 1)) :: J i outs)
    refine wpAny_bind (wpAny_mono (wpAny_tests_nil (Q := fun ok s₃ => ok = true ∧ s₃ = s2) ⟨rfl, rfl⟩) (fun ok s3 h3 => ?_) fun _ _ h' => h')
    obtain ⟨rfl, rfl⟩ := h3
    simp only [if_true]
    refine wpAny_bind (wpAny_mono (turn i xs[i] t _ outs s3 (fun s => ∃ (i' : Nat) (m : Str → Option Value) (outs : List Value), xs.length - (i + 1) = xs.length - i' ∧ i' ≤ xs.length ∧ Ok i' outs ∧ Own σ ((cenv.locals, IsNs m) :: (acc, IsL outs) :: (I, It i') :: J i' outs) s) _
      (List.getElem?_eq_getElem hlt) (upd_same _ _ _) ho O4 (fun m' outs' s' h1 h2 => ⟨i + 1, m', outs', rfl, hlt, h1, h2⟩)) (fun x s4 h4 => ?_) fun _ _ h' => h')
    refine wpAny_bind (wpAny_standAt ?_)
    rw [if_neg (by simp)]
    refine wpAny_bind (wpAny_of_eq (hs x) ?_)
    rw [if_neg (by simp)]
    refine wpAny_bind (wpAny_holding (wpAny_mono h4 (fun it s5 h5 => ?_) fun _ _ h' => h'))
    refine wpAny_bind (wpAny_runOwn (codeAny_mono h5 fun r s' hr => ?_))
    obtain ⟨rfl, i', m', outs', h1, h2, h3, h4⟩ := hr
    exact wpAny_pure (⟨rfl, xs.length - (i + 1), by omega, i', m', outs', h1, h2, h3, h4⟩)
  · have hie : i = xs.length := by omega
    subst hie
    refine wpAny_bind (IO.stop hh (hN _ outs m) O1 (Nat.le_refl _) fun s1 O2 => ?_)
    exact wpAny_pure (fin m outs s1 ho O2)
end
end Mine
end

-- Cel
section
open PySem PySem.W PyProof.Rows PySem.Calls
set_option Elab.async false
set_option maxRecDepth 100000
set_option maxHeartbeats 1000000
set_option linter.unusedVariables false
namespace Mine
theorem cells_keys : ∀ (names : List (Str × NameKind)) (k : Nat) (acc : List (Str × Addr)), (cellsFrom k names acc).map (·.1) = ((names.filter fun x => x.2 == .cell).map (·.1)).reverse ++ acc.map (·.1)
  | [], _, _ => by simp [cellsFrom]
  | (n, kd) :: r, k, acc => by
    unfold cellsFrom
    split
    · rename_i h
      rw [cells_keys r, List.filter_cons, if_pos h]
      simp
    · rename_i h
      rw [cells_keys r, List.filter_cons, if_neg h]
theorem lookup_mem {α : Type} : ∀ {l : List (Str × α)} {p : Str × α}, (l.map (·.1)).Nodup → p ∈ l → l.lookup p.1 = some p.2
  | (k, v) :: r, p, hn, h => by
    rw [List.map_cons, List.nodup_cons] at hn
    rw [List.lookup_cons]
    rcases List.mem_cons.mp h with rfl | h
    · simp
    · have : (p.1 == k) = false := beq_eq_false_iff_ne.mpr fun e => hn.1 (List.mem_map.mpr ⟨p, h, e⟩)
      rw [this]
      exact lookup_mem hn.2 h
abbrev cellHP (cs : List (Str × Addr)) (cm : Str → Option Value) : List HP := cs.map fun x => (x.2, IsC (cm x.1))
section
variable {prog : Program} {w : World} {A : Around} {E : Value → Shared → Prop} {σ s : Shared} {env : Env} {ps r r' : List HP} {K : Frag} {mg mb m : Str → Option Value} {R : Result → Shared → Prop} {n : Nat} {x : Str} {v : Value} {c : Addr} {pos : Pos}
theorem ownC {f : Addr} {fd : FuncData} {binds : List (Str × Value)} {s₁ : Shared} (O : Own σ ps s) (hnd : ((fd.scope.names.filter fun x => x.2 == .cell).map (·.1)).Nodup)
    (x : InCallC s (callEnvC fd s.heap.objs.size f).locals (bindL (callEnvC fd s.heap.objs.size f).kindOf binds fun _ => none) (callEnvC fd s.heap.objs.size f).cells (bindC (callEnvC fd s.heap.objs.size f).kindOf binds fun _ => none) s₁) :
    Own σ ((s.heap.objs.size, IsNs (bindL (callEnvC fd s.heap.objs.size f).kindOf binds fun _ => none)) :: (cellHP (cellsFrom (s.heap.objs.size + 1) fd.scope.names []) (bindC (callEnvC fd s.heap.objs.size f).kindOf binds fun _ => none) ++ ps)) s₁ := by
  have hkeep := x.toInCall.keep
  have hcell : ∀ p ∈ cellsFrom (s.heap.objs.size + 1) fd.scope.names [], ∃ o, s₁.heap.get? p.2 = some o ∧ IsC (bindC (callEnvC fd s.heap.objs.size f).kindOf binds (fun _ => none) p.1) o := fun p hp => by
    have hl := lookup_mem (by rw [cells_keys]; simpa using ((List.reverse_perm _).nodup_iff.mpr hnd)) hp
    exact x.cell p.1 p.2 hl
  obtain ⟨hh, tt, e⟩ := x.toInCall.same
  refine ⟨fun b o e => hkeep b o (O.keep b o e), fun p hp => ?_, fun p hp => ?_, O.top, ?_, ?_, ?_, ?_⟩
  · rcases List.mem_cons.mp hp with rfl | hp
    · exact ns_iff.mp x.toInCall.ns
    · rcases List.mem_append.mp hp with hp | hp
      · obtain ⟨q, hq, rfl⟩ := List.mem_map.mp hp
        exact hcell q hq
      · obtain ⟨o, ho, hP⟩ := O.mem p hp
        exact ⟨o, hkeep _ _ ho, hP⟩
  · rcases List.mem_cons.mp hp with rfl | hp
    · exact O.size
    · rcases List.mem_append.mp hp with hp | hp
      · obtain ⟨q, hq, rfl⟩ := List.mem_map.mp hp
        exact Nat.le_of_lt (Nat.lt_of_le_of_lt O.size (x.above q.1 q.2 hq))
      · exact O.above p hp
  · rw [List.map_cons, List.map_append, List.nodup_cons, List.nodup_append]
    have hlt := O.lt
    refine ⟨fun hm => ?_, ?_, O.nd, fun a ha b hb e => ?_⟩
    · rcases List.mem_append.mp hm with hm | hm
      · rw [List.map_map] at hm
        obtain ⟨q, hq, e⟩ := List.mem_map.mp hm
        have := x.above q.1 q.2 hq
        exact absurd e (Nat.ne_of_gt this)
      · obtain ⟨q, hq, e⟩ := List.mem_map.mp hm
        exact absurd e (Nat.ne_of_lt (hlt q hq))
    · rw [List.map_map]
      exact List.pairwise_map.mpr x.apart
    · rw [List.map_map] at ha
      obtain ⟨q, hq, rfl⟩ := List.mem_map.mp ha
      obtain ⟨q', hq', rfl⟩ := List.mem_map.mp hb
      have h1 := x.above q.1 q.2 hq
      have h2 := hlt q' hq'
      exact absurd e (Nat.ne_of_gt (Nat.lt_trans h2 h1))
  · rw [e]; exact O.gens
  · rw [e]; exact O.drawn
  · rw [e]; exact O.os
/-- a call of a def that has cells of its own -/
theorem c_defC {f : Addr} {oc : Value} {od : Option Addr} {osl : Array (Option Value)} {fd : FuncData} {body : List Stmt} {vals : List Value} {binds : List (Str × Value)} {n : Nat}
    (X : PF K σ mg mb) (O : Own σ ps s) (hr : Room A (n + 1)) (ho : K.lookup f = some ⟨oc, od, .func fd, osl⟩) (hbody : fd.body = .stmts body) (hbind : bindArgs fd ⟨vals, []⟩ = pure binds)
    (hkind : ∀ L, ∀ x ∈ binds, fd.scope.names.lookup x.1 = some .local ∨ (fd.scope.names.lookup x.1 = some .cell ∧ ((cellsFrom (L + 1) fd.scope.names []).lookup x.1).isSome = true))
    (k : ∀ L s' E', Own σ ((L, IsNs (bindL (callEnvC fd L f).kindOf binds fun _ => none)) :: (cellHP (cellsFrom (L + 1) fd.scope.names []) (bindC (callEnvC fd L f).kindOf binds fun _ => none) ++ ps)) s' → Room (A.deeper (callEnvC fd L f)) n →
      wpAny (model prog w) (A.deeper (callEnvC fd L f)) (execs body (callEnvC fd L f)) (fun fl s'' => R (.ok (.ret (match fl with | .ret v => v | _ => .none))) s'') E' s')
    (hnd : ((fd.scope.names.filter fun x => x.2 == .cell).map (·.1)).Nodup := by decide)
    (hcd : codeIn K fd.code fd.qualname = true := by rfl) (hclo : fd.closure = [] := by rfl)
    (hco : fd.scope.isCoroutine = false := by rfl) (hgen : fd.scope.isGenerator = false := by rfl) (hk : fd.scope.kind = .function := by rfl) :
    codeAny (model prog w) A (.call (.ref f) ⟨vals, []⟩) R s := by
  refine codeAny_call_cells (by have := hr.hd; omega) (O.inK X _ _ ho) rfl (X.nolimit.keeps O.keep) (codeRec_of (O.inK X) hcd) hbody hbind hclo (hkind _) (fun s₁ x => ?_) hco hgen hk
  exact k s.heap.objs.size s₁ _ (ownC O hnd x) (hr.deeper _)

theorem cell_of (O : Own σ ps s) {o : Option Value} (hp : Pick c (IsC o) ps r) : s.heap.IsCell c o := O.get hp
theorem r_cell {M : Model} {Q : Value → Shared → Prop} (O : Own σ ps s) (h : Q v s) (hp : Pick c (IsC (some v)) ps r) (hc : env.cells.lookup x = some c := by rfl) (hl : env.kindOf x = some .cell := by rfl) (hk : env.scope.kind = .function := by rfl) (hd : (x == ("__debug__" : Str)) = false := by decide) :
    wpAny M A (eval (.Name x pos) env) Q E s := wpAny_Name (wpAny_loadName_cell hk hl hc (cell_of O hp) h) hd
theorem r_free {M : Model} {Q : Value → Shared → Prop} (O : Own σ ps s) (h : Q v s) (hp : Pick c (IsC (some v)) ps r) (hc : env.cells.lookup x = some c := by rfl) (hl : env.kindOf x = some .free := by rfl) (hk : env.scope.kind = .function := by rfl) (hd : (x == ("__debug__" : Str)) = false := by decide)
    (hn : (x == ("__classdict__" : Str)) = false := by decide) : wpAny M A (eval (.Name x pos) env) Q E s := wpAny_Name (wpAny_loadName_free hk hl hc (cell_of O hp) h hn) hd
theorem r_stC {M : Model} {o : Option Value} {Q : Unit → Shared → Prop} (O : Own σ ps s) (h : ∀ s', Own σ ((c, IsC (some v)) :: r) s' → Q () s') (hp : Pick c (IsC o) ps r) (hc : env.cells.lookup x = some c := by rfl) (hl : env.kindOf x = some .cell := by rfl) (hk : env.scope.kind = .function := by rfl) :
    wpAny M A (storeName env x v) Q E s := wpAny_storeName_cell hk hl hc (cell_of O hp) fun h' hc' hs => h _ (O.upd (t := s.toks) hp hs.extBut hc')
theorem r_globC {M : Model} {Q : Value → Shared → Prop} (X : PF K σ mg mb) (O : Own σ ps s) (h : Q v s) (e : nsIn K mainGlobals x = some (some v) := by rfl)
    (hG : env.globals = mainGlobals := by rfl) (hk : env.scope.kind = .function := by rfl) (hx : env.kindOf x = some .globalImplicit := by rfl) (hd : (x == ("__debug__" : Str)) = false := by decide) :
    wpAny M A (eval (.Name x pos) env) Q E s := r_glob X O h e hG hk hx hd
end
end Mine
end

-- OkR
section
open PySem PySem.W PyProof.Rows PySem.Calls
set_option Elab.async false
set_option maxRecDepth 100000
set_option linter.unusedVariables false
namespace Mine

def codeOk (M : Model) (A : Around) (c : Code) (R : Result → Shared → Prop) (s : Shared) : Prop :=
  ∀ Γ p, Γ.code = c → Γ.Below A → isFin c = false → bad Γ.below = false → wpCode M Γ R p s

section
variable {α β : Type} {M : Model} {A : Around} {E : Value → Shared → Prop} {s : Shared} {env : Env}
theorem codeOk_any {c : Code} {R : Result → Shared → Prop} (h : codeAny M A c R s) : codeOk M A c R s := fun Γ p hc hΓ _ _ => h Γ p hc hΓ
theorem ok_mono {t : Sem α} {Q Q' : α → Shared → Prop} {E' : Value → Shared → Prop} (h : wpOk M A t Q E s) (hQ : ∀ a s, Q a s → Q' a s) (hE : ∀ e s, E e s → E' e s) : wpOk M A t Q' E' s :=
  fun Γ p hΓ h1 h2 => Sem.wp_mono M Γ t (fun a _ s => hQ a s) (fun e _ s => hE e s) p s (h Γ p hΓ h1 h2)
theorem ok_bind {m : Sem α} {f : α → Sem β} {Q : β → Shared → Prop} (h : wpOk M A m (fun a s' => wpOk M A (f a) Q E s') E s) : wpOk M A (m >>= f) Q E s := fun Γ p hΓ h1 h2 => by
  rw [Sem.wp_bind']
  exact Sem.wp_mono M Γ m (fun a p' s' h' => h' Γ p' hΓ h1 h2) (fun _ _ _ h' => h') p s (h Γ p hΓ h1 h2)
theorem ok_pure {a : α} {Q : α → Shared → Prop} (h : Q a s) : wpOk M A (pure a) Q E s := fun _ _ _ _ _ => h
theorem ok_holding {vs : List Value} {m : Sem α} {Q : α → Shared → Prop} (h : wpOk M A m Q E s) : wpOk M A (holding vs m) Q E s := fun Γ p hΓ h1 h2 => by rw [Sem.wp_holding]; exact h Γ p hΓ h1 h2
theorem ok_keep {vs : List Value} {m : Sem α} {Q : α → Shared → Prop} (h : wpOk M A m Q E s) : wpOk M A (m.keep vs) Q E s := fun Γ p hΓ h1 h2 => by rw [Sem.wp_keep]; exact h Γ p hΓ h1 h2
theorem ok_operate {vs : List Value} {m : Sem Value} {Q : Value → Shared → Prop} (h : wpOk M A m Q E s) : wpOk M A (operate vs m) Q E s := fun Γ p hΓ h1 h2 => by rw [Sem.wp_operate]; exact h Γ p hΓ h1 h2
theorem ok_onRaise {m : Sem α} {k : Value → Sem Unit} {Q : α → Shared → Prop} (h : wpOk M A m Q (fun e s' => wpAny M A (k e) (fun _ s'' => E e s'') E s') s) : wpOk M A (m.onRaise k) Q E s := fun Γ p hΓ h1 h2 => by
  rw [Sem.wp_onRaise]
  exact Sem.wp_mono M Γ m (fun _ _ _ h' => h') (fun e p' s' h' => h' Γ p' hΓ) p s (h Γ p hΓ h1 h2)
theorem ok_tryCatch {m : Sem α} {k : Value → Sem α} {Q : α → Shared → Prop} (h : wpOk M A m Q (fun e s' => wpAny M A (k e) Q E s') s) : wpOk M A (tryCatch m k) Q E s := fun Γ p hΓ h1 h2 => by
  rw [Sem.wp_tryCatch']
  exact Sem.wp_mono M Γ m (fun _ _ _ h' => h') (fun e p' s' h' => h' Γ p' hΓ) p s (h Γ p hΓ h1 h2)
theorem bad_enter {Γ : Ctx} {c : Code} {h : Option Value} {p : Pos} (h1 : isFin Γ.code = false) (h2 : bad Γ.below = false) : bad (Γ.enter c h p).below = false := by
  show (isFin Γ.code || bad Γ.below) = false
  rw [h1, h2]; rfl
theorem ok_run {c : Code} {Q : Flow → Shared → Prop} (hc : codeOk M A c (fun r s' => match r with | .ok f => Q f s' | .error e => E e s') s) (hf : isFin c = false := by rfl) : wpOk M A (run c none) Q E s :=
  fun Γ p hΓ h1 h2 => by
    rw [Sem.wp_run]
    exact hc _ p rfl (hΓ.enter c none p (by intro x; cases x)) hf (bad_enter h1 h2)
theorem ok_runValue {c : Code} {Q : Value → Shared → Prop} (hc : codeOk M A c (fun r s' => match r with | .ok (.ret v) => Q v s' | .ok _ => False | .error e => E e s') s) (hf : isFin c = false := by rfl) : wpOk M A (runValue c) Q E s :=
  fun Γ p hΓ h1 h2 => by
    rw [Sem.wp_runValue]
    exact hc _ p rfl (hΓ.enter c none p (by intro x; cases x)) hf (bad_enter h1 h2)
theorem ok_call {f : Value} {pos : List Value} {kw : List (Str × Value)} {Q : Value → Shared → Prop} (hc : codeOk M A (.call f ⟨pos, kw⟩) (fun r s' => match r with | .ok (.ret v) => Q v s' | .ok _ => False | .error e => E e s') s) : wpOk M A (call f pos kw) Q E s := ok_runValue hc
theorem codeOk_tree {c : Code} {R : Result → Shared → Prop}
    (h : wpOk M (A.under c) (M.den c) (fun fin s' => match fin with | .done f => R (.ok f) s' | .again c' => c'.quiet = true ∧ isFin c' = false ∧ codeOk M A c' R s') (fun e s' => R (.error e) s') s) : codeOk M A c R s := fun Γ p hc hΓ h1 h2 => by
  rw [wpCode_iff_wp, hc]
  refine Sem.wp_mono M Γ _ (fun fin p' s' h' => ?_) (fun _ _ _ h' => h') p s (h Γ p (hc ▸ hΓ.in) (hc ▸ h1) h2)
  cases fin with
  | done f => exact h'
  | again c' => exact ⟨h'.1, h'.2.2 (Γ.goto c') p' rfl (hΓ.goto c') h'.2.1 h2⟩
theorem codeOk_mono {c : Code} {R R' : Result → Shared → Prop} (h : codeOk M A c R s) (hR : ∀ r s, R r s → R' r s) : codeOk M A c R' s :=
  fun Γ p hc hΓ h1 h2 => wpCode_mono hR (h Γ p hc hΓ h1 h2)

theorem ok_execs_cons {st : Stmt} {rest : List Stmt} {Q : Flow → Shared → Prop} (h : wpOk M A (exec st env) (fun f s' => match f with | .next => wpOk M A (execs rest env) Q E s' | f => Q f s') E s) : wpOk M A (execs (st :: rest) env) Q E s := by
  rw [execs_cons]
  refine ok_bind (ok_mono h (fun f s' h' => ?_) fun _ _ h' => h')
  cases f <;> first | exact h' | exact ok_pure h'
theorem ok_Return {e : Expr} {pos : Pos} {Q : Flow → Shared → Prop} (h : wpOk M A (eval e env) (fun v s' => Q (.ret v) s') E s) : wpOk M A (exec (.Return (some e) pos) env) Q E s := by
  rw [exec_Return_some]
  exact ok_bind (ok_any (wpAny_standAt (ok_bind (ok_mono h (fun v s' h' => ok_pure h') fun _ _ h' => h'))))
theorem ok_Assign_Name {x : Str} {pos' pos : Pos} {value : Expr} {Q : Flow → Shared → Prop} (h : wpOk M A (eval value env) (fun v s₁ => wpAny M A (storeName env x v) (fun _ => Q .next) E s₁) E s)
    (hs : swapsWith value (some (.Name x pos')) pos.line env = pure false := by rfl) : wpOk M A (exec (.Assign [.Name x pos'] value pos) env) Q E s := by
  rw [exec_Assign_Name (hs := hs)]
  exact ok_bind (ok_any (wpAny_standAt (ok_bind (ok_mono h (fun v s' h' => ok_any (wpAny_bind (wpAny_standAt (wpAny_bind (wpAny_bindName (wpAny_mono h' (fun _ _ z => wpAny_pure z) fun _ _ z => z)))))) fun _ _ h' => h'))))
theorem ok_runOwn {c : Code} {Q : Flow → Shared → Prop} (hc : codeOk M A c (fun r s' => match r with | .ok f => Q f s' | .error e => cameBackBy M A env E e s') s) (hf : isFin c = false := by rfl) : wpOk M A (runOwn c env none) Q E s := by
  unfold runOwn
  exact ok_onRaise (ok_run hc hf)
theorem ok_While {test : Expr} {body orelse : List Stmt} {pos : Pos} {Q : Flow → Shared → Prop}
    (h : codeOk M A (.whileLoop test body orelse env) (fun r s' => match r with | .ok f => Q f s' | .error e => cameBackBy M A env E e s') s) : wpOk M A (exec (.While test body orelse pos) env) Q E s := by
  rw [exec_While]; exact ok_bind (ok_any (wpAny_standAt (ok_runOwn h)))
theorem ok_For {target iter : Expr} {body orelse : List Stmt} {pos : Pos} {Q : Flow → Shared → Prop}
    (h : wpOk M A (eval iter env) (fun x s₁ => wpAny M A (pyIter x) (fun it s₂ => codeOk M A (.forLoop target it body orelse env) (fun r s' => match r with | .ok f => Q f s' | .error e => cameBackBy M A env E e s') s₂) E s₁) E s)
    (hs : ∀ x, foldedSetIterable iter env x = pure x := by intro _; rfl) : wpOk M A (exec (.For target iter body orelse pos) env) Q E s := by
  rw [exec_For]
  refine ok_bind (ok_any (wpAny_standAt (ok_bind (ok_mono h (fun x s₁ h₁ => ?_) fun _ _ h' => h'))))
  refine ok_bind (ok_any (wpAny_of_eq (hs x) (ok_bind (ok_any (wpAny_standAt (ok_bind (ok_any (wpAny_holding (wpAny_mono h₁ (fun it s₂ h₂ => ok_runOwn h₂) fun _ _ h' => h')))))))))
end

section
variable {prog : Program} {w : World} {A : Around} {E : Value → Shared → Prop} {σ s : Shared} {env : Env} {ps r r' : List HP} {K : Frag} {mg mb m : Str → Option Value} {R : Result → Shared → Prop}

theorem codeOk_builtin {id : String} {args : Args} {b : Builtin} (hb : entryFor table id = some b)
    (h : wpOk (model prog w) (A.under (.builtin id args)) (b args) (fun fin s' => match fin with | .done f => R (.ok f) s' | .again c' => c'.quiet = true ∧ isFin c' = false ∧ codeOk (model prog w) A c' R s') (fun e s' => R (.error e) s') s) :
    codeOk (model prog w) A (.builtin id args) R s := by
  refine codeOk_tree ?_
  show wpOk _ _ (match entryFor table id with | some b => b args | none => unsupported ((withoutEnding? id "#data").getD id)) _ _ s
  rw [hb]; exact h

/-- one turn of a while, the rest by itself -/
theorem codeOk_while {test : Expr} {body orelse : List Stmt}
    (h : wpAny (model prog w) A (isTrue test env (eval test env)) (fun b s₂ => b = true ∧ wpOk (model prog w) A (execs body env) (fun f s₃ => match f with
        | .next | .cont => codeOk (model prog w) A (.whileLoop test body orelse env) R s₃
        | .brk => R (.ok .next) s₃
        | .ret v => R (.ok (.ret v)) s₃) (notedBy (model prog w) A env fun e s' => R (.error e) s') s₂) (notedBy (model prog w) A env fun e s' => R (.error e) s') s) :
    codeOk (model prog w) A (.whileLoop test body orelse env) R s := by
  refine codeOk_tree ?_
  show wpOk _ A ((whileTurn test body orelse env).onRaise (fun x => do noteFrame x env; theTreesLotGoes x)) _ _ s
  have hn : ∀ {s' : Shared} {e : Value}, notedBy (model prog w) A env (fun e s' => R (.error e) s') e s' → wpAny (model prog w) A (do noteFrame e env; theTreesLotGoes e) (fun _ s'' => R (.error e) s'') (fun e s' => R (.error e) s') s' := fun z =>
    wpAny_bind (wpAny_mono z (fun _ _ y => wpAny_theTreesLotGoes y) fun _ _ y => y)
  refine ok_onRaise ?_
  simp only [whileTurn]
  refine ok_bind (ok_any (wpAny_mono h (fun b s₂ h₂ => ?_) fun _ _ h' => hn h'))
  obtain ⟨rfl, h₂⟩ := h₂
  refine ok_bind (ok_mono h₂ (fun f s₃ h₃ => ?_) fun _ _ h' => hn h')
  cases f with
  | next => exact ok_pure ⟨rfl, rfl, h₃⟩
  | cont => exact ok_pure ⟨rfl, rfl, h₃⟩
  | brk => exact ok_pure h₃
  | ret v => exact ok_pure h₃
/-- one turn of a for, the rest by itself -/
theorem codeOk_for {target : Expr} {it : Value} {body orelse : List Stmt}
    (h : wpAny (model prog w) A (pyNext it) (fun r s₁ => ∃ v, r = some v ∧ wpAny (model prog w) A (assign target env v) (fun _ s₂ => wpOk (model prog w) A (execs body env) (fun f s₃ => match f with
        | .next | .cont => codeOk (model prog w) A (.forLoop target it body orelse env) R s₃
        | .brk => R (.ok .next) s₃
        | .ret v => R (.ok (.ret v)) s₃) (notedBy (model prog w) A env fun e s' => R (.error e) s') s₂) (notedBy (model prog w) A env fun e s' => R (.error e) s') s₁) (notedBy (model prog w) A env fun e s' => R (.error e) s') s)
    (ht : ∀ v, letOwnedTupleGo target it v = pure () := by intro _; rfl) : codeOk (model prog w) A (.forLoop target it body orelse env) R s := by
  refine codeOk_tree ?_
  show wpOk _ A ((forTurn target it body orelse env).onRaise (fun x => do noteFrame x env; theTreesLotGoes x)) _ _ s
  have hn : ∀ {s' : Shared} {e : Value}, notedBy (model prog w) A env (fun e s' => R (.error e) s') e s' → wpAny (model prog w) A (do noteFrame e env; theTreesLotGoes e) (fun _ s'' => R (.error e) s'') (fun e s' => R (.error e) s') s' := fun z =>
    wpAny_bind (wpAny_mono z (fun _ _ y => wpAny_theTreesLotGoes y) fun _ _ y => y)
  refine ok_onRaise ?_
  simp only [forTurn]
  refine ok_bind (ok_any (wpAny_standAt (ok_bind (ok_any (wpAny_onRaise (wpAny_mono h (fun r s₁ h₁ => ?_) fun _ _ h' => wpAny_standAt (hn h')))))))
  obtain ⟨v, rfl, h₁⟩ := h₁
  refine ok_bind (ok_any (wpAny_of_eq (ht v) (ok_bind (ok_any (wpAny_mono h₁ (fun _ s₂ h₂ => ?_) fun _ _ h' => hn h')))))
  refine ok_bind (ok_mono h₂ (fun f s₃ h₃ => ?_) fun _ _ h' => hn h')
  cases f with
  | next => exact ok_pure ⟨rfl, rfl, h₃⟩
  | cont => exact ok_pure ⟨rfl, rfl, h₃⟩
  | brk => exact ok_pure h₃
  | ret v => exact ok_pure h₃

/-- a call of a plain def, over good contexts -/
theorem cok_def {f : Addr} {oc : Value} {od : Option Addr} {osl : Array (Option Value)} {fd : FuncData} {body : List Stmt} {args : Args} {binds : List (Str × Value)} {n : Nat}
    (X : PF K σ mg mb) (O : Own σ ps s) (hr : Room A (n + 1)) (ho : K.lookup f = some ⟨oc, od, .func fd, osl⟩) (hbody : fd.body = .stmts body)
    (hbind : BindsTo s fd args binds)
    (k : ∀ L s' E', Own σ ((L, IsNs (fun x => binds.reverse.lookup x)) :: ps) s' → Room (A.deeper (callEnv fd L f)) n →
      wpOk (model prog w) (A.deeper (callEnv fd L f)) (execs body (callEnv fd L f)) (fun fl s'' => R (.ok (.ret (match fl with | .ret v => v | _ => .none))) s'') E' s')
    (hcd : codeIn K fd.code fd.qualname = true := by rfl) (hcell : ∀ x ∈ fd.scope.names, x.2 ≠ .cell := by decide) (hloc : (binds.all fun x => decide (fd.scope.names.lookup x.1 = some .local)) = true := by rfl)
    (hco : fd.scope.isCoroutine = false := by rfl) (hgen : fd.scope.isGenerator = false := by rfl) (hk : fd.scope.kind = .function := by rfl) :
    codeOk (model prog w) A (.call (.ref f) args) R s := by
  refine codeOk_tree ?_
  show wpOk _ A.in1 (callAny (.ref f) args) _ _ s
  obtain ⟨c, oc', vs, tq, hc, hoc, hdc, hq⟩ := codeRec_of (O.inK X) hcd
  simp only [callAny]
  refine ok_any (wpAny_bind (wpAny_load (O.inK X _ _ ho) ?_))
  simp only [callFunction, hco, hgen, hbody]
  have hroom : A.depth < recursionLimit := by have := hr.hd; omega
  rw [hc]
  refine wpAny_bind (m := field (.ref c) 1) (wpAny_field hoc hdc hq (wpAny_bind (wpAny_pure ?_)))
  refine wpAny_bind (hbind _ _ _ _ (wpAny_bind ?_))
  have hnl := X.nolimit.keeps O.keep
  rw [← hc]
  refine wpAny_newFunctionEnv hcell (locs hloc) (fun h₀ hns hsb => ?_) hk
  have hkp : ∀ b o, s.heap.get? b = some o → h₀.get? b = some o := fun b o e => hsb.extBut b o (Nat.ne_of_lt (Heap.lt_size e)) (Heap.get?_push_of_some _ e)
  refine wpAny_bind (wpAny_enterFrame (hnl.keeps hkp) hroom (wpAny_pure (And.intro rfl (And.intro rfl ?_))))
  refine codeOk_tree ?_
  show wpOk _ (A.deeper (callEnv fd s.heap.objs.size f)) (do point; match ← (execs body (callEnv fd s.heap.objs.size f)).onRaise (leaving (callEnv fd s.heap.objs.size f)) with | .ret v => ret v | _ => ret .none) _ _ _
  refine ok_bind (ok_any (wpAny_point (ok_bind (ok_onRaise (ok_mono (k s.heap.objs.size _ _ (O.add (fun b o _ e => hkp b o e) (ns_iff.mp hns)) (hr.deeper _)) (fun fl s' h' => ?_) fun _ _ h' => h')))))
  cases fl <;> exact ok_pure h'
end
end Mine
end

-- OkP
section
open PySem PySem.W PyProof.Rows PySem.Calls
set_option Elab.async false
set_option maxRecDepth 100000
set_option linter.unusedVariables false
namespace Mine
section
variable {prog : Program} {w : World} {A : Around} {E : Value → Shared → Prop} {σ s : Shared} {env : Env} {ps r r' : List HP} {K : Frag} {mg mb m : Str → Option Value} {R : Result → Shared → Prop} {g gd C : Addr} {kvs : List (Str × Value)} {name : Str}

theorem ok_Subscript {value slice : Expr} {pos : Pos} {Q : Value → Shared → Prop}
    (h : wpOk (model prog w) A (eval value env) (fun o s₁ => wpOk (model prog w) A (eval slice env) (fun i s₂ => wpOk (model prog w) A (subscriptTail value slice o i) Q E s₂) E s₁) E s) : wpOk (model prog w) A (eval (.Subscript value slice pos) env) Q E s := by
  rw [eval_Subscript]
  exact ok_bind (ok_mono h (fun o s₁ h₁ => ok_bind (ok_holding (ok_mono h₁ (fun i s₂ h₂ => ok_bind (ok_any (wpAny_standAt h₂))) fun _ _ x => x))) fun _ _ x => x)
theorem ok_Attribute {value : Expr} {attr : Str} {pos : Pos} {Q : Value → Shared → Prop} (h : wpOk (model prog w) A (eval value env) (fun o s₁ => wpOk (model prog w) A (getAttr o attr true) Q E s₁) E s)
    (he : eval (.Attribute value attr pos) env = (do let o ← eval value env; standAt pos.atName; let r ← holding [o] (getAttr o attr true); letTemporaryGo value o r; pure r) := by with_unfolding_all rfl) : wpOk (model prog w) A (eval (.Attribute value attr pos) env) Q E s := by
  rw [he]
  exact ok_bind (ok_mono h (fun o s₁ h₁ => ok_bind (ok_any (wpAny_standAt (ok_bind (ok_holding (ok_mono h₁ (fun r s₂ h₂ => ok_bind (ok_any (wpAny_letTemporaryGo (ok_pure h₂)))) fun _ _ x => x)))))) fun _ _ x => x)

/-- a subscript of an object by its class's own __getitem__ -/
theorem ok_sub {value slice : Expr} {i : Value} {f : Addr} {sl : Array (Option Value)} {oc : Value} {od : Option Addr} {osl : Array (Option Value)} {fd : FuncData} {Q : Value → Shared → Prop} (X : PF K σ mg mb) (O : Own σ ps s)
    (h : wpOk (model prog w) A.in1 (call (.ref f) [.ref g, i]) Q E s)
    (hg : Pick g (IsO (plainObj C (some gd) sl)) ps r) (hd : Pick gd (IsS prog w kvs) ps r')
    (hs : findIn K (.ref C) "__getitem__" = some (some (.ref f)) := by rfl) (hf : K.lookup f = some ⟨oc, od, .func fd, osl⟩ := by rfl) (hfn : typeIn K (.ref f) = some (.type "function") := by rfl)
    (hsl : subscripted slice true (.ref g) i = runValue (.builtin "lifetime.subscript" ⟨[.ref g, i], []⟩) := by with_unfolding_all rfl) :
    wpOk (model prog w) A (subscriptTail value slice (.ref g) i) Q E s := by
  obtain ⟨od', hS, I⟩ := inst_dict O hg hd
  have KX := O.inK X
  unfold subscriptTail getitemInPython
  refine ok_bind (ok_any (wpAny_bind (wpAny_bind (I.type.here ((looks_findIn KX hs).here ?_)))))
  dsimp only
  refine wpAny_bind (wpAny_load (KX _ _ hf) (wpAny_pure ?_))
  dsimp only
  rw [hsl]
  refine ok_bind (ok_runValue (codeOk_builtin entry_sub ?_))
  unfold Builtin.«lifetime.subscript» callSpecial? specialOf
  refine ok_bind (ok_bind (ok_any (wpAny_bind (I.type.here ((looks_findIn KX hs).here ?_)))))
  refine ok_holding (ok_bind (ok_any ((bind_fn KX _ hfn).here ?_)))
  refine ok_bind (ok_mono h (fun v s' z => ?_) fun _ _ z => z)
  refine ok_pure (ok_pure ?_)
  show wpOk (model prog w) A (letTemporaryGo value (.ref g) v >>= fun _ => pure v) Q E s'
  exact ok_bind (ok_any (wpAny_letTemporaryGo (ok_pure z)))

/-- an attribute that a descriptor of the class gives -/
theorem ok_attrBind {f a : Value} {expr : Bool} {Q : Value → Shared → Prop} (X : PF K σ mg mb) (O : Own σ ps s)
    (h : ∀ s' E', Own σ ps s' → wpOk (model prog w) A.in1 (call f [a, .ref g, .ref C]) (fun v s' => handedIn v = true ∧ Q v s') E' s')
    (hg : Pick g (IsO (plainObj C (some gd) #[])) ps r) (hd : Pick gd (IsS prog w kvs) ps r')
    (hf : ∀ od, IsS prog w kvs od → findObj K C (some od) name = some (.bind f a))
    (hga : findIn K (.ref C) "__getattribute__" = some (some (.builtin "object.__getattribute__")) := by rfl) (hgb : findIn K (.ref C) "__getattr__" = some none := by rfl) :
    wpOk (model prog w) A (getAttr (.ref g) name expr) Q E s := by
  obtain ⟨od, hS, I⟩ := inst_dict O hg hd
  have KX := O.inK X
  have hf' := hf od hS
  have O' := O.toks (t := s.toks + 1)
  obtain ⟨hh, gg, d, t, os⟩ := s
  have L0 := I.type (M := model prog w)
  have L1 := looks_findIn (M := model prog w) KX hga
  have L2 := looks_find (M := model prog w) KX I hf'
  have L3 := looks_findIn (M := model prog w) KX hgb
  unfold getAttr getAttrBy
  refine ok_bind (ok_any (wpAny_mkText (ok_holding (ok_bind (ok_any (L0.at (ok_bind (ok_any (L1.at ?_)))))))))
  show wpOk _ _ (getAttrEveryday _ _ _) _ _ _
  refine ok_bind (ok_onRaise (ok_runValue (codeOk_builtin F.plainObj_entry_getattr_hooked ?_)))
  refine ok_bind (ok_any (wpAny_pure (ok_bind (ok_any (L0.at (ok_bind (ok_any (L2.at (ok_bind (ok_any (L3.at ?_)))))))))))
  show wpOk _ _ (holding [a] (call f [a, .ref g, .ref C]) >>= ret) _ _ _
  refine ok_bind (ok_holding (ok_mono (h _ _ O') (fun v s' z => ok_pure ?_) fun _ _ z => z))
  show wpOk _ _ (handedOut v) _ _ _
  rw [handedOut_of z.1]
  exact ok_pure z.2
end
end Mine
namespace Mine
section
variable {prog : Program} {w : World} {A : Around} {E : Value → Shared → Prop} {s : Shared} {env : Env}
/-- a try whose body comes through -/
theorem ok_Try {body orelse : List Stmt} {h₀ : ExceptHandler} {hs : List ExceptHandler} {pos : Pos} {Q : Flow → Shared → Prop}
    (h : wpOk (model prog w) A (execs body env) (fun f s₁ => match f with | .next => wpOk (model prog w) A (execs orelse env) Q E s₁ | f => Q f s₁) (fun _ _ => False) s) :
    wpOk (model prog w) A (exec (.Try body (h₀ :: hs) orelse [] pos) env) Q E s := by
  rw [arm_exec_Try]
  refine ok_bind (ok_any (wpAny_standAt ?_))
  unfold tryStmt
  simp only [List.isEmpty_nil, if_true, List.isEmpty_cons, Bool.false_and, Bool.false_eq_true, if_false]
  refine ok_bind (fun Γ p hΓ h1 h2 => ?_)
  rw [Sem.wp_attempt]
  refine Sem.wp_mono _ Γ _ (fun f p' s' h' => ?_) (fun _ _ _ h' => h'.elim) p s (h Γ p hΓ h1 h2)
  cases f <;> first | exact h' | exact ok_pure h'
end
end Mine
end

-- CelOk
section
open PySem PySem.W PyProof.Rows PySem.Calls
set_option Elab.async false
set_option maxRecDepth 100000
set_option maxHeartbeats 1000000
set_option linter.unusedVariables false
namespace Mine
section
variable {prog : Program} {w : World} {A : Around} {E : Value → Shared → Prop} {σ s : Shared} {env : Env} {ps r r' : List HP} {K : Frag} {mg mb m : Str → Option Value} {R : Result → Shared → Prop}
theorem cok_defC {f : Addr} {oc : Value} {od : Option Addr} {osl : Array (Option Value)} {fd : FuncData} {body : List Stmt} {vals : List Value} {binds : List (Str × Value)} {n : Nat}
    (X : PF K σ mg mb) (O : Own σ ps s) (hr : Room A (n + 1)) (ho : K.lookup f = some ⟨oc, od, .func fd, osl⟩) (hbody : fd.body = .stmts body) (hbind : bindArgs fd ⟨vals, []⟩ = pure binds)
    (hkind : ∀ L, ∀ x ∈ binds, fd.scope.names.lookup x.1 = some .local ∨ (fd.scope.names.lookup x.1 = some .cell ∧ ((cellsFrom (L + 1) fd.scope.names []).lookup x.1).isSome = true))
    (k : ∀ L s' E', Own σ ((L, IsNs (bindL (callEnvC fd L f).kindOf binds fun _ => none)) :: (cellHP (cellsFrom (L + 1) fd.scope.names []) (bindC (callEnvC fd L f).kindOf binds fun _ => none) ++ ps)) s' → Room (A.deeper (callEnvC fd L f)) n →
      wpOk (model prog w) (A.deeper (callEnvC fd L f)) (execs body (callEnvC fd L f)) (fun fl s'' => R (.ok (.ret (match fl with | .ret v => v | _ => .none))) s'') E' s')
    (hnd : ((fd.scope.names.filter fun x => x.2 == .cell).map (·.1)).Nodup := by decide)
    (hcd : codeIn K fd.code fd.qualname = true := by rfl) (hclo : fd.closure = [] := by rfl)
    (hco : fd.scope.isCoroutine = false := by rfl) (hgen : fd.scope.isGenerator = false := by rfl) (hk : fd.scope.kind = .function := by rfl) :
    codeOk (model prog w) A (.call (.ref f) ⟨vals, []⟩) R s := by
  refine codeOk_tree ?_
  show wpOk _ A.in1 (callAny (.ref f) ⟨vals, []⟩) _ _ s
  obtain ⟨c, oc', vs, tq, hc, hoc, hdc, hq⟩ := codeRec_of (O.inK X) hcd
  simp only [callAny]
  refine ok_any (wpAny_bind (wpAny_load (O.inK X _ _ ho) ?_))
  simp only [callFunction, hco, hgen, hbody]
  have hroom : A.depth < recursionLimit := by have := hr.hd; omega
  rw [hc]
  refine wpAny_bind (m := field (.ref c) 1) (wpAny_field hoc hdc hq (wpAny_bind (wpAny_pure ?_)))
  rw [hbind, hclo]
  refine wpAny_bind (wpAny_pure (wpAny_bind ?_))
  have hnl := X.nolimit.keeps O.keep
  rw [← hc]
  refine wpAny_newFunctionEnv_cells hk (hkind _) fun env he s' x => ?_
  subst he
  refine wpAny_bind (wpAny_enterFrame (hnl.keeps x.toInCall.keep) hroom (wpAny_pure (And.intro rfl (And.intro rfl ?_))))
  refine codeOk_tree ?_
  show wpOk _ (A.deeper (callEnvC fd s.heap.objs.size f)) (do point; match ← (execs body (callEnvC fd s.heap.objs.size f)).onRaise (leaving (callEnvC fd s.heap.objs.size f)) with | .ret v => ret v | _ => ret .none) _ _ _
  refine ok_bind (ok_any (wpAny_point (ok_bind (ok_onRaise (ok_mono (k s.heap.objs.size _ _ (ownC O hnd x) (hr.deeper _)) (fun fl s' h' => ?_) fun _ _ h' => h')))))
  cases fl <;> exact ok_pure h'
end
end Mine
end

-- OkL
section
open PySem PySem.W PyProof.Rows PySem.Calls
set_option Elab.async false
set_option maxRecDepth 100000
set_option maxHeartbeats 1000000
set_option linter.unusedVariables false
namespace Mine
section
variable {M : Model} {A : Around} {E : Value → Shared → Prop} {s : Shared} {env : Env} {K : Frag} {f : Value} {first : List Value} {pos : Pos}
theorem ok_Assign_Tuple {elts k tpos value pos} {Q : Flow → Shared → Prop}
    (h : wpOk M A (eval value env) (fun v s₁ => wpAny M A (assign (.Tuple elts k tpos) env v) (fun _ => Q .next) E s₁) E s)
    (hs : swapsWithSole [.Tuple elts k tpos] value pos.line env = pure false := by rfl)
    (hw : swappedStores [.Tuple elts k tpos] value env = pure none := by rfl) :
    wpOk M A (exec (.Assign [.Tuple elts k tpos] value pos) env) Q E s := by
  rw [exec_Assign]
  refine ok_bind (ok_any (wpAny_standAt ?_))
  rw [hs]
  refine ok_bind (ok_pure ?_)
  rw [if_neg (by decide)]
  refine ok_bind (ok_mono h (fun v s₁ h₁ => ok_any ?_) fun _ _ x => x)
  rw [hw]
  refine wpAny_bind (wpAny_pure ?_)
  show wpAny M A (do assignAll v [assign (.Tuple elts k tpos) env]; pure .next) Q E s₁
  exact wpAny_bind (wpAny_mono h₁ (fun _ _ x => wpAny_pure x) fun _ _ x => x)
theorem ok_callWith_of {P : Heap → Prop} {args : List (Bool × Sem Value)} {keywords : List (Option Str × Sem Value)} {Q : Value → Shared → Prop} (hplain : (args.any (·.1) || keywords.any (·.1.isNone)) = false)
    (hk : ∀ h, P h → ∃ k, (k = Keeper.frame ∨ k = Keeper.machine ∨ k = Keeper.boundFrame) ∧ Looks M h (keeperOf f) k)
    (h : wpAny M A (evalArgs f true args keywords) (fun a s₁ => P s₁.heap ∧ wpOk M A (call f (first ++ a.pos) a.kw) Q E s₁) E s) : wpOk M A (callWith pos f first args keywords) Q E s := by
  unfold callWith
  refine ok_bind (ok_any (wpAny_holding (wpAny_mono h (fun a s₁ h₁ => ok_bind (ok_any (wpAny_standAt ?_))) fun _ _ x => x)))
  obtain ⟨k, hk', L⟩ := hk _ h₁.1
  simp only [hplain]
  refine ok_bind (ok_any (L.here ?_))
  have tail : ∀ {t : Sem Value}, wpOk M A t Q E s₁ → wpOk M A (t >>= fun r => holding [r] point >>= fun _ => pure r) Q E s₁ :=
    fun ht => ok_bind (ok_mono ht (fun r s₂ hr => ok_bind (ok_any (wpAny_holding (wpAny_point (ok_pure hr))))) fun _ _ x => x)
  have marked (mk : Value) : wpOk M A (callMarked mk f (first ++ a.pos) a.kw) Q E s₁ := by unfold callMarked; exact ok_keep h₁.2
  rcases hk' with rfl | rfl | rfl <;> dsimp only <;> first | exact tail h₁.2 | (split <;> first | exact tail h₁.2 | exact tail (marked _))
theorem ok_callWith_KW {Q : Value → Shared → Prop} {e : Expr} {rest : List Expr} {kws : List Keyword} (hk : keepIn K f = true) (hall : (backToKw pos (keywordEach kws env)).all (·.1.isSome) = true)
    (h : wpAny M A (spliced (backTo pos (starEach (e :: rest) env))) (fun vs s₁ => wpAny M A (evalAll ((backToKw pos (keywordEach kws env)).map (·.2)))
      (fun ks s₂ => K.In s₂.heap ∧ wpOk M A (call f (first ++ vs) (((backToKw pos (keywordEach kws env)).filterMap (·.1)).zip ks)) Q E s₂) E s₁) E s)
    (hplain : ((backTo pos (starEach (e :: rest) env)).any (·.1) || (backToKw pos (keywordEach kws env)).any (·.1.isNone)) = false := by rfl) (he : starEach (e :: rest) env = (false, eval e env) :: starEach rest env := by rfl) :
    wpOk M A (callWith pos f first (backTo pos (starEach (e :: rest) env)) (backToKw pos (keywordEach kws env))) Q E s :=
  ok_callWith_of hplain (keeps_K hk) (evalArgs_kw2 hall h he)
theorem ok_Call_Name_kw {id : Str} {p pos : Pos} {args : List Expr} {keywords : List Keyword} {Q : Value → Shared → Prop}
    (h : wpAny M A (eval (.Name id p) env) (fun f s₁ => wpOk M A (callWith pos f [] (backTo pos (starEach args env)) (backToKw pos (keywordEach keywords env))) Q E s₁) E s) :
    wpOk M A (eval (.Call (.Name id p) args keywords pos) env) Q E s := by
  rw [arm_eval_Call_Name']
  exact ok_bind (ok_any h)
end
end Mine
end

-- Comp3
section
open PySem PySem.W PyProof.Rows PySem.Calls
set_option Elab.async false
set_option maxRecDepth 100000
set_option maxHeartbeats 1000000
set_option linter.unusedVariables false
namespace Mine
section
variable {prog : Program} {w : World} {A : Around} {E : Value → Shared → Prop} {σ s : Shared} {env : Env} {ps r r' : List HP} {R : Result → Shared → Prop}
/-- the last clause of a list comprehension: its turns -/
theorem comp_lastC {elt iter : Expr} {y : Str} {py : Pos} {ifs : List Expr} {gens : List Comprehension} {scope : Scope} {pos : Pos} {depth : Nat} {I acc C Ca : Addr} {xs : List Int} {It : Nat → Obj → Prop} {Need : List HP → Prop} {cenv : Env} {m : Str → Option Value} {o : Option Value} {outs : List Value} {i : Nat}
    (hg : gens[depth]? = some ⟨.Name y py, iter, ifs, 0⟩) (hg' : gens[depth + 1]? = none) (IO : IterOn prog w I xs It Need) (hh : A.handled = none) (hC : cenv.locals = C) (hk : cenv.kindOf y = some .cell) (hfk : cenv.scope.kind = .function) (hcc : cenv.cells.lookup y = some Ca)
    (Ok : Nat → List Value → Prop) (hz : ∀ i outs, Ok i outs → outs.length ≤ 1000) (J : Nat → List Value → List HP) (hN : ∀ i outs m o, Need ((C, IsNs m) :: (Ca, IsC o) :: (acc, IsL outs) :: J i outs))
    (O : Own σ ((C, IsNs m) :: (Ca, IsC o) :: (acc, IsL outs) :: (I, It i) :: J i outs) s) (ho : Ok i outs) (hi : i ≤ xs.length)
    (turn : ∀ i x t m outs s E', xs[i]? = some x → Ok i outs → Own σ ((C, IsNs m) :: (Ca, IsC (some (.int x t))) :: (acc, IsL outs) :: (I, It (i + 1)) :: J i outs) s →
      wpAny (model prog w) A (forIn ifs true fun c r => if r = true then do let ok ← isTrue c cenv (eval c cenv); pure (ForInStep.yield ok) else pure (ForInStep.yield r))
        (fun ok s₃ => if ok = true then wpAny (model prog w) A (eval elt cenv) (fun v s₄ => Ok (i + 1) (outs ++ [v]) ∧ Own σ ((C, IsNs m) :: (Ca, IsC (some (.int x t))) :: (acc, IsL outs) :: (I, It (i + 1)) :: J (i + 1) (outs ++ [v])) s₄) E' s₃
          else Ok (i + 1) outs ∧ Own σ ((C, IsNs m) :: (Ca, IsC (some (.int x t))) :: (acc, IsL outs) :: (I, It (i + 1)) :: J (i + 1) outs) s₃) E' s)
    (fin : ∀ m o outs s, Ok xs.length outs → Own σ ((C, IsNs m) :: (Ca, IsC o) :: (acc, IsL outs) :: J xs.length outs) s → R (.ok .next) s) :
    codeAny (model prog w) A (.compLoop (.ListComp elt gens scope pos) depth (.ref I) (.ref acc) cenv) R s := by
  refine codeAny_loop rfl (fun k s => ∃ (i : Nat) (m : Str → Option Value) (o : Option Value) (outs : List Value), k = xs.length - i ∧ i ≤ xs.length ∧ Ok i outs ∧ Own σ ((C, IsNs m) :: (Ca, IsC o) :: (acc, IsL outs) :: (I, It i) :: J i outs) s) (fun n s hI => ?_) _ ⟨i, m, o, outs, rfl, hi, ho, O⟩
  obtain ⟨i, m, o, outs, rfl, hi, ho, O⟩ := hI
  show wpAny _ _ ((compTurn (.ListComp elt gens scope pos) depth (.ref I) (.ref acc) cenv).onRaise (fun x => do noteFrame x cenv; theTreesLotGoes x)) _ _ s
  refine wpAny_noted ?_
  unfold compTurn
  dsimp only
  rw [hg]
  dsimp only
  refine wpAny_bind (wpAny_standAt ?_)
  rw [if_neg (by decide)]
  have O1 := O.to (qs := (I, It i) :: (C, IsNs m) :: (Ca, IsC o) :: (acc, IsL outs) :: J i outs)
  rcases Nat.lt_or_ge i xs.length with hlt | hge
  · refine wpAny_bind (IO.next (hN i outs m o) O1 (List.getElem?_eq_getElem hlt) fun t s1 O2 => ?_)
    dsimp only
    refine wpAny_bind (wpAny_of_eq (a := ()) (by rfl) ?_)
    subst hC
    refine wpAny_bind (wpAny_assign_Name (r_stC O2 (fun s2 O3 => ?_) (hp := .there (.there .here)) (hc := hcc) (hl := hk) (hk := hfk)))
    have O4 := O3.to (qs := (cenv.locals, IsNs m) :: (Ca, IsC (some (.int xs[i] t))) :: (acc, IsL outs) :: (I, It (i + 1)) :: J i outs)
    refine wpAny_bind (wpAny_mono (turn i xs[i] t _ outs s2 _ (List.getElem?_eq_getElem hlt) ho O4) (fun ok s3 h3 => ?_) fun _ _ h' => h')
    cases ok with
    | false =>
      simp only [if_false, Bool.false_eq_true] at h3 ⊢
      exact wpAny_pure ⟨rfl, xs.length - (i + 1), by omega, i + 1, _, _, outs, rfl, hlt, h3.1, h3.2⟩
    | true =>
      simp only [if_true] at h3 ⊢
      rw [hg']
      dsimp only
      refine wpAny_bind (wpAny_bind (wpAny_mono h3 (fun v s4 h4 => ?_) fun _ _ h' => h'))
      obtain ⟨ho4, O5⟩ := h4
      refine wpAny_bind (r_append (d := acc) O5 (fun s5 O6 => wpAny_pure ?_) (.there (.there .here)) (by have := hz _ _ ho; rw [sizeLine_eq]; omega))
      exact wpAny_pure ⟨rfl, xs.length - (i + 1), by omega, i + 1, _, _, outs ++ [v], rfl, hlt, ho4, O6.to⟩
  · have hie : i = xs.length := by omega
    subst hie
    refine wpAny_bind (IO.stop hh (hN _ outs m o) O1 (Nat.le_refl _) fun s1 O2 => ?_)
    exact wpAny_pure (fin m o outs s1 ho O2)
/-- a list comprehension: its source, then its frame and its list, then the turns -/
theorem r_compC {elt target iter : Expr} {ifs : List Expr} {gs : List Comprehension} {scope : Scope} {pos : Pos} {cl : List (Str × Addr)} {cx : Str} {Q : Value → Shared → Prop}
    (hclos : closureFor scope env = pure cl) (hcf : ∀ k, cellsFrom k scope.names cl = (cx, k) :: cl) (hpc : ∀ h, pushCells h scope.names = h.push { cls := .type "cell", data := .cell none }) (hkind : scope.kind = .function) (hnames : ∀ y ∈ scope.names, y.2 = .local → scope.names.lookup y.1 = some .local)
    (h : wpAny (model prog w) A (eval iter env) (fun x s1 => wpAny (model prog w) A (pyIter x) (fun it s2 => ∃ I It ps2, it = .ref I ∧ Own σ ((I, It) :: ps2) s2 ∧
      (∀ {A : Around} {E : Value → Shared → Prop} {s : Shared} {ps : List HP} {Q : Value → Shared → Prop}, Own σ ((I, It) :: ps) s → Q (.ref I) s → wpAny (model prog w) A (pyIter (.ref I)) Q E s) ∧
      ∀ acc C Ca s3, Own σ ((C, IsNs fun _ => none) :: (Ca, IsC none) :: (acc, IsL []) :: (I, It) :: ps2) s3 → codeAny (model prog w) A (.compLoop (.ListComp elt (⟨target, iter, ifs, 0⟩ :: gs) scope pos) 0 (.ref I) (.ref acc) (compEnvC scope ((cx, Ca) :: cl) C env))
        (fun r s' => r = .ok .next ∧ ∃ m ps4, Own σ ((C, IsNs m) :: ps4) s' ∧ ∀ s'', Own σ ps4 s'' → Q (.ref acc) s'') s3) E s1) E s)
    (hs : ∀ x, foldedSetIterable iter env x = pure x := by intro _; rfl) :
    wpAny (model prog w) A (eval (.ListComp elt (⟨target, iter, ifs, 0⟩ :: gs) scope pos) env) Q E s := by
  rw [eval_ListComp]
  refine wpAny_comprehension_free (use := none) rfl hs hclos hkind hnames (wpAny_mono h (fun x s1 h1 => wpAny_mono h1 (fun it s2 h2 => ?_) fun _ _ e => e) fun _ _ e => e)
  obtain ⟨I, It, ps2, rfl, O2, hself, hrun⟩ := h2
  refine r_newList O2 fun acc s3 O3 => ?_
  simp only [newFunctionEnv, Option.isSome_some, if_true]
  refine wpAny_bind (wpAny_alloc (wpAny_bind (wpAny_layCells _ (fun name kind cells => by cases hkc : kind == NameKind.cell <;> simp [hkc]) _ _ _ _ ?_)))
  rw [hcf, hpc]
  have OA := O3.push (o := { cls := .type "dict", data := .dict #[] }) (P := IsNs fun _ => none) (by obtain ⟨o, ho, hP⟩ := ns_iff.mp (Heap.Ns.new ({} : Heap) (.type "dict")); rw [Heap.get?_push_size _ rfl] at ho; cases ho; exact hP) (t := s3.toks)
  have OB := OA.push (o := { cls := .type "cell", data := .cell none }) (P := IsC none) rfl (t := s3.toks)
  refine wpAny_bind (wpAny_pure ?_)
  have O4 := OB.perm (.swap _ _ _)
  clear OA OB
  have hl : ∀ s4, Own σ ((s3.heap.objs.size, IsNs fun _ => none) :: ((s3.heap.push { cls := .type "dict", data := .dict #[] }).objs.size, IsC none) :: (acc, IsL []) :: (I, It) :: ps2) s4 → codeAny (model prog w) A (.compLoop (.ListComp elt (⟨target, iter, ifs, 0⟩ :: gs) scope pos) 0 (.ref I) (.ref acc) (compEnvC scope ((cx, (s3.heap.push { cls := .type "dict", data := .dict #[] }).objs.size) :: cl) s3.heap.objs.size env)) (compPost (model prog w) A E none Q (.ref acc) s3.heap.objs.size) s4 := by
    intro s4 O4
    refine codeAny_mono (hrun acc _ _ _ O4) fun r s' hr => ?_
    obtain ⟨rfl, m, ps4, O5, hQ⟩ := hr
    exact ⟨m, ns_iff.mpr (O5.get .here), fun h' hs' => hQ _ (O5.gone (t := s'.toks) .here hs'.extBut)⟩
  exact wpAny_pure (codeAny_compStart_list (hl _ O4) (hself (O4.to (qs := (I, It) :: (s3.heap.objs.size, IsNs fun _ => none) :: ((s3.heap.push { cls := .type "dict", data := .dict #[] }).objs.size, IsC none) :: (acc, IsL []) :: ps2)) (hl _ O4)))
/-- a name given a list comprehension: the store comes before the comprehension's frame goes -/
theorem r_compAssignC {elt target iter : Expr} {ifs : List Expr} {gs : List Comprehension} {scope : Scope} {pos spos py : Pos} {y : Str} {cl : List (Str × Addr)} {cx : Str} {Q : Flow → Shared → Prop}
    (hsw : swapsWith (.ListComp elt (⟨target, iter, ifs, 0⟩ :: gs) scope pos) (some (.Name y py)) spos.line env = pure true)
    (hclos : closureFor scope env = pure cl) (hcf : ∀ k, cellsFrom k scope.names cl = (cx, k) :: cl) (hpc : ∀ h, pushCells h scope.names = h.push { cls := .type "cell", data := .cell none }) (hkind : scope.kind = .function) (hnames : ∀ y ∈ scope.names, y.2 = .local → scope.names.lookup y.1 = some .local)
    (h : wpAny (model prog w) A (eval iter env) (fun x s1 => wpAny (model prog w) A (pyIter x) (fun it s2 => ∃ I It ps2, it = .ref I ∧ Own σ ((I, It) :: ps2) s2 ∧
      (∀ {A : Around} {E : Value → Shared → Prop} {s : Shared} {ps : List HP} {Q : Value → Shared → Prop}, Own σ ((I, It) :: ps) s → Q (.ref I) s → wpAny (model prog w) A (pyIter (.ref I)) Q E s) ∧
      ∀ acc C Ca s3, Own σ ((C, IsNs fun _ => none) :: (Ca, IsC none) :: (acc, IsL []) :: (I, It) :: ps2) s3 → codeAny (model prog w) A (.compLoop (.ListComp elt (⟨target, iter, ifs, 0⟩ :: gs) scope pos) 0 (.ref I) (.ref acc) (compEnvC scope ((cx, Ca) :: cl) C env))
        (fun r s' => r = .ok .next ∧ wpAny (model prog w) A (assign (.Name y py) env (.ref acc)) (fun _ s'' => ∃ m ps5, Own σ ((C, IsNs m) :: ps5) s'' ∧ ∀ s3, Own σ ps5 s3 → Q .next s3) E s') s3) E s1) E s)
    (hs : ∀ x, foldedSetIterable iter env x = pure x := by intro _; rfl) :
    wpAny (model prog w) A (exec (.Assign [.Name y py] (.ListComp elt (⟨target, iter, ifs, 0⟩ :: gs) scope pos) spos) env) Q E s := by
  rw [exec_Assign_Name_used _ _ _ _ hsw]
  refine wpAny_bind (wpAny_standAt (wpAny_bind ?_))
  show wpAny _ A (do let _ ← comprehension (.ListComp elt (⟨target, iter, ifs, 0⟩ :: gs) scope pos) scope env _ (newList []) false (eval iter env) (some (assign (.Name y py) env))) _ _ s
  refine wpAny_bind (wpAny_mono (wpAny_comprehension_free (use := some (assign (.Name y py) env)) (Q := fun _ s' => Q .next s') rfl hs hclos hkind hnames
    (wpAny_mono h (fun xv s₁ h₁ => wpAny_mono h₁ (fun it s₂ h₂ => ?_) fun _ _ e => e) fun _ _ e => e)) (fun _ s' hq => wpAny_pure (wpAny_pure hq)) fun _ _ e => e)
  obtain ⟨I, It, ps2, rfl, O2, hself, hrun⟩ := h₂
  refine r_newList O2 fun acc s3 O3 => ?_
  simp only [newFunctionEnv, Option.isSome_some, if_true]
  refine wpAny_bind (wpAny_alloc (wpAny_bind (wpAny_layCells _ (fun name kind cells => by cases hkc : kind == NameKind.cell <;> simp [hkc]) _ _ _ _ ?_)))
  rw [hcf, hpc]
  have OA := O3.push (o := { cls := .type "dict", data := .dict #[] }) (P := IsNs fun _ => none) (by obtain ⟨o, ho, hP⟩ := ns_iff.mp (Heap.Ns.new ({} : Heap) (.type "dict")); rw [Heap.get?_push_size _ rfl] at ho; cases ho; exact hP) (t := s3.toks)
  have OB := OA.push (o := { cls := .type "cell", data := .cell none }) (P := IsC none) rfl (t := s3.toks)
  refine wpAny_bind (wpAny_pure ?_)
  have O4 := OB.perm (.swap _ _ _)
  clear OA OB
  have hl : ∀ s4, Own σ ((s3.heap.objs.size, IsNs fun _ => none) :: ((s3.heap.push { cls := .type "dict", data := .dict #[] }).objs.size, IsC none) :: (acc, IsL []) :: (I, It) :: ps2) s4 → codeAny (model prog w) A (.compLoop (.ListComp elt (⟨target, iter, ifs, 0⟩ :: gs) scope pos) 0 (.ref I) (.ref acc) (compEnvC scope ((cx, (s3.heap.push { cls := .type "dict", data := .dict #[] }).objs.size) :: cl) s3.heap.objs.size env)) (compPost (model prog w) A E (some (assign (.Name y py) env)) (fun _ s' => Q .next s') (.ref acc) s3.heap.objs.size) s4 := by
    intro s4 O4
    refine codeAny_mono (hrun acc _ _ _ O4) fun r s' hr => ?_
    obtain ⟨rfl, hr⟩ := hr
    refine wpAny_mono hr (fun _ s'' hq => ?_) fun _ _ e => e
    obtain ⟨m, ps5, O5, hQ⟩ := hq
    exact ⟨m, ns_iff.mpr (O5.get .here), fun h' hs' => hQ _ (O5.gone (t := s''.toks) .here hs'.extBut)⟩
  exact wpAny_pure (codeAny_compStart_list (hl _ O4) (hself (O4.to (qs := (I, It) :: (s3.heap.objs.size, IsNs fun _ => none) :: ((s3.heap.push { cls := .type "dict", data := .dict #[] }).objs.size, IsC none) :: (acc, IsL []) :: ps2)) (hl _ O4)))

end
end Mine
end

-- Gr
section
open PySem PySem.W PyProof.Rows PySem.Calls
set_option Elab.async false
set_option maxRecDepth 100000
set_option maxHeartbeats 1000000
set_option linter.unusedVariables false
namespace Mine
section
variable {prog : Program} {w : World} {A : Around} {E : Value → Shared → Prop} {σ s : Shared} {env : Env} {ps r r' r'' : List HP} {mg mb m : Str → Option Value} {R : Result → Shared → Prop}

noncomputable abbrev KF (w : World) : Frag := kx w.params

theorem atlas_make {d : Addr} {n : Nat} (X : PF (KF w) σ mg mb) (O : Own σ ps s) (hr : Room A (n + 2))
    (h : ∀ x dx s', Own σ ((x, IsO (plainObj 120 (some dx) #[some (.ref d)])) :: (dx, IsS prog w []) :: ps) s' → R (.ok (.ret (.ref x))) s') :
    codeAny (model prog w) A (.call (.ref 120) ⟨[.ref d], []⟩) R s := by
  refine c_make X O hr fun x dx s1 O1 hr1 => ?_
  refine c_def X O1 hr1 rfl rfl (binds := [("self", .ref x), ("d", .ref d)]) (BindsTo.of_eq rfl) fun L s2 E' O2 hr2 => ?_
  refine wpAny_execs_cons (plainObj_wpAny_Assign_Attribute ?_)
  refine r_ld O2 (r_ld O2 ?_ (hv := rfl)) (hv := rfl)
  refine r_setSlot X O2.to fun s3 O3 => ?_
  exact wpAny_execs_nil ⟨rfl, h _ _ _ O3.to⟩

theorem adj_make {d : Addr} {n : Nat} (X : PF (KF w) σ mg mb) (O : Own σ ps s) (hr : Room A (n + 2))
    (h : ∀ x dx s', Own σ ((x, IsO (plainObj 142 (some dx) #[some (.ref d)])) :: (dx, IsS prog w []) :: ps) s' → R (.ok (.ret (.ref x))) s') :
    codeAny (model prog w) A (.call (.ref 142) ⟨[.ref d], []⟩) R s := by
  refine c_make X O hr fun x dx s1 O1 hr1 => ?_
  refine c_def X O1 hr1 rfl rfl (binds := [("self", .ref x), ("d", .ref d)]) (BindsTo.of_eq rfl) fun L s2 E' O2 hr2 => ?_
  refine wpAny_execs_cons (plainObj_wpAny_Assign_Attribute ?_)
  refine r_ld O2 (r_ld O2 ?_ (hv := rfl)) (hv := rfl)
  refine r_setSlot X O2.to fun s3 O3 => ?_
  exact wpAny_execs_nil ⟨rfl, h _ _ _ O3.to⟩

/-- AdjacencyView.__getitem__ -/
theorem adj_item {av ax od d : Addr} {outer : List (Int × Value)} {v : Int} {t : Tok} {n : Nat} (X : PF (KF w) σ mg mb) (O : Own σ ps s) (hr : Room A (n + 3))
    (h1 : Pick av (IsO (plainObj 142 (some ax) #[some (.ref od)])) ps r) (h2 : Pick ax (IsS prog w []) ps r') (h3 : Pick od (IsD prog w outer) ps r'') (hv : valueAt outer v = some (.ref d))
    (h : ∀ x dx s', Own σ ((x, IsO (plainObj 120 (some dx) #[some (.ref d)])) :: (dx, IsS prog w []) :: ps) s' → R (.ok (.ret (.ref x))) s') :
    codeAny (model prog w) A (.call (.ref 138) ⟨[.ref av, .int v t], []⟩) R s := by
  refine c_def X O hr rfl rfl (binds := [("self", .ref av), ("name", .int v t)]) (BindsTo.of_eq rfl) fun L s1 E' O1 hr1 => ?_
  refine wpAny_execs_cons (wpAny_Return_some ?_)
  refine wpAny_Call_NameR (r_glob X O1 ?_ (v := .ref 120))
  refine callWith_K X.K (by rfl) ?_
  refine spliced_more (Subscript_ (Attribute_any_ (r_ld O1 ?_ (hv := rfl))))
  refine r_slot X O1 (fun s2 O2 => ?_) (hg := h1.there) (hd := h2.there)
  refine r_ld O2 ?_ (hv := rfl)
  refine r_sub O2 (fun s3 O3 => ?_) hv (hp := h3.there)
  refine spliced_none ⟨O3.inK X, wpAny_call ?_⟩
  exact atlas_make X O3 hr1 fun x dx s4 O4 => h _ _ _ O4.to

/-- AtlasView.__iter__ -/
theorem atlas_iter {av ax d : Addr} {row : List (Int × Value)} {ep n : Nat} (X : PF (KF w) σ mg mb) (O : Own σ ps s) (hr : Room A (n + 1))
    (h1 : Pick av (IsO (plainObj 120 (some ax) #[some (.ref d)])) ps r) (h2 : Pick ax (IsS prog w []) ps r') (h3 : Pick d (IsDe prog w row ep) ps r'')
    (h : ∀ I s', Own σ ((I, IsKI d 0 row.length ep) :: ps) s' → R (.ok (.ret (.ref I))) s') :
    codeAny (model prog w) A (.call (.ref 95) ⟨[.ref av], []⟩) R s := by
  refine c_def X O hr rfl rfl (binds := [("self", .ref av)]) (BindsTo.of_eq rfl) fun L s1 E' O1 hr1 => ?_
  refine wpAny_execs_cons (wpAny_Return_some ?_)
  refine wpAny_Call_NameR (r_bltn X O1 ?_ (v := .builtin "iter") (hv := by kernel_rfl))
  refine PyProof.Rows.callWith_builtin1 (spliced_more (Attribute_any_ (r_ld O1 ?_ (hv := rfl))))
  refine r_slot X O1 (fun s2 O2 => ?_) (hg := h1.there) (hd := h2.there)
  refine spliced_none ?_
  exact r_iterB X O2 (fun I s3 O3 => h _ _ O3.to) (hp := h3.there)
end
end Mine
end

-- OkD
section
open PySem PySem.W PyProof.Rows PySem.Calls
set_option Elab.async false
set_option maxRecDepth 100000
set_option linter.unusedVariables false
namespace Mine
/-- what the stack is asked, in words of our own -/
def finAsked (d : Addr) : Sem (Option String) := do
  let o ← load d
  let ofTheHeap : Value → Bool := fun | .ref _ | .builtin _ => true | _ => false
  let holdsSuch := match o.data with
    | .dict es _ => es.any fun e => ofTheHeap e.key || ofTheHeap e.val
    | _ => true
  if !o.slots.isEmpty || !holdsSuch then return none
  match (← stack).findSome? (fun (act : Code × Pos) => match act.1 with
    | .builtin "lifetime.gc.finalise" ⟨pos, gone⟩ => some (pos.head?, gone)
    | _ => none) with
  | some (mode, gone) =>
    if !gone.any (fun (g : Str × Value) => match g.2 with
      | .int n _ => n.toNat == d
      | _ => false) then return none
    return match mode with
      | some (.int 1 _) | some (.int 2 _) => none
      | _ => some "lifetime:an-instances-dict-is-made-real-inside-the-collection-that-found-it"
  | none =>
    if (← nsGet cStatics "_thread.count").isNone then return none
    return if (← runValue (.builtin "gc.ask" ⟨[rawInt Ask.isCollecting], []⟩)) != .bool false then some "lifetime:an-instances-dict-is-made-real-on-another-thread-while-a-collection-is-under-way" else none
theorem hand_eq (a : Addr) : instanceDictHandedOut a = (do
    let some d ← instanceDict a true | return none
    if let .ref _ := (← loadPart a (some headPart)).cls then
      if let some word ← finAsked d then unsupported word
      update d fun o => if o.slots.isEmpty then { o with slots := #[none] } else o
    return some d) := rfl
theorem find_none {f : Code × Pos → Option (Option Value × List (Str × Value))} (hf : ∀ c p, isFin c = false → f (c, p) = none) : ∀ {st : List (Code × Pos)}, bad st = false → st.findSome? f = none
  | [], _ => rfl
  | (c, p) :: st, h => by
    have h' : (isFin c || bad st) = false := h
    rw [Bool.or_eq_false_iff] at h'
    rw [List.findSome?_cons, hf c p h'.1]
    exact find_none hf h'.2
section
variable {prog : Program} {w : World} {A : Around} {E : Value → Shared → Prop} {σ s : Shared} {ps r r' : List HP} {K : Frag} {mg mb m : Str → Option Value} {R : Result → Shared → Prop} {g gd C : Addr} {kvs : List (Str × Value)}
theorem wp_stackCmd {M : Model} {Γ : Ctx} {p : Pos} {Q : List (Code × Pos) → Pos → Shared → Prop} {E : Value → Pos → Shared → Prop} : Sem.wp M Γ stack Q E p s = Q ((Γ.code, p) :: Γ.below) p s := id rfl
theorem ok_ite {α : Type} {M : Model} {c : Prop} [Decidable c] {a b : Sem α} {Q : α → Shared → Prop} (h1 : wpOk M A a Q E s) (h2 : wpOk M A b Q E s) : wpOk M A (if c then a else b) Q E s := by split; exact h1; exact h2
theorem ok_finAsked {M : Model} {d : Addr} {o : Obj} {Q : Option String → Shared → Prop} {mc : Str → Option Value} (ho : s.heap.get? d = some o) (hc : s.heap.Ns cStatics mc) (hm : mc "_thread.count" = none) (h : Q none s) : wpOk M A (finAsked d) Q E s := by
  unfold finAsked
  refine ok_bind (ok_any (wpAny_load ho ?_))
  dsimp only
  refine ok_ite (ok_pure h) ?_
  · intro Γ p hΓ h1 h2
    have hb : bad ((Γ.code, p) :: Γ.below) = false := by
      show (isFin Γ.code || bad Γ.below) = false
      rw [h1, h2]; rfl
    rw [Sem.wp_bind', wp_stackCmd, find_none (hf := ?hf) hb]
    case hf =>
      intro c' p' hf
      dsimp only
      split
      · exact absurd hf (by simp [isFin])
      · rfl
    refine (wpAny_bind (wpAny_nsGet hc ?_) : wpAny M A _ _ _ s) Γ p hΓ
    rw [hm]
    exact wpAny_pure h

theorem codeOk_call_builtin {id : String} {args : Args} {b : Builtin} (hq : plainId id = true) (hb : entryFor table id = some b) (hf : isFin (.builtin id args) = false)
    (h : wpAny (model prog w) A.in1 (checkBuiltinCall id args) (fun _ s₁ => wpOk (model prog w) A.in1 (b args) (fun fin s' => match fin with | .done f => R (.ok f) s' | .again c' => c'.quiet = true ∧ isFin c' = false ∧ codeOk (model prog w) A c' R s') (fun e s' => R (.error e) s') s₁) (fun e s' => R (.error e) s') s) :
    codeOk (model prog w) A (.call (.builtin id) args) R s := by
  refine codeOk_tree ?_
  show wpOk _ A.in1 (do checkBuiltinCall id args; again (.builtin id args)) _ _ s
  refine ok_bind (ok_any (wpAny_mono h (fun _ s₁ h₁ => ok_pure ⟨plainId_quiet hq _, hf, codeOk_builtin hb ?_⟩) fun _ _ h' => h'))
  rw [Around.under_plainId hq]
  exact h₁

theorem ok_handed {od : Obj} (X : PF K σ mg mb) (O : Own σ ps s) (h1 : Pick g (IsO (plainObj C (some gd) #[])) ps r) (h2 : Pick gd (IsS prog w kvs) ps r') {Q : Option Addr → Shared → Prop}
    (h : ∀ s', Own σ ((gd, IsS prog w kvs) :: r') s' → Q (some gd) s') (hcd : (clsIn K C).any (·.hasDict) = true) :
    wpOk (model prog w) A (instanceDictHandedOut g) Q E s := by
  obtain ⟨o, ho, rfl⟩ := O.get h1
  obtain ⟨od, hod, hS⟩ := O.get h2
  have KX := O.inK X
  obtain ⟨cd, hc, hdd⟩ := any_some hcd
  obtain ⟨mc, hmc, hth⟩ := X.thr
  rw [hand_eq]
  refine ok_bind (ok_any ?_)
  unfold instanceDict
  refine wpAny_bind (wpAny_loadPart ho ?_)
  unfold plainObj
  dsimp only
  refine wpAny_bind ((looks_clsIn KX hc).here ?_)
  rw [hdd]
  refine wpAny_pure (a := some gd) ?_
  dsimp only
  refine ok_bind (ok_any (wpAny_loadPart ho ?_))
  unfold plainObj
  dsimp only
  refine ok_bind (ok_finAsked hod (hmc.keeps O.keep) hth ?_)
  refine ok_bind (ok_any (wpAny_update hod ?_))
  refine ok_pure (h _ (O.upd (t := s.toks) h2 (Heap.SameBut.update ..).extBut ⟨_, Heap.get?_update_self _ hod ?_, ?_⟩))
  · obtain ⟨_, _, es, ep, hd, _⟩ := hS
    obtain ⟨c, dd, dt, sl⟩ := od
    dsimp only at hd ⊢
    subst hd
    split <;> rfl
  · obtain ⟨a1, a2, es, ep, hd, a3⟩ := hS
    split
    · exact ⟨a1, a2, es, ep, hd, a3⟩
    · exact ⟨a1, a2, es, ep, hd, a3⟩

theorem fd_entry : entryFor table "function.__dict__" = some Builtin.«function.__dict__» := entryFor_of_tree (by kernel_rfl)
/-- object.__dict__ is read -/
theorem ok_dictGet {gs : Addr} {n : Str} {tn : Tok} {owner : Value} {dd : Option Addr} {sl : Array (Option Value)} (X : PF K σ mg mb) (O : Own σ ps s) (h1 : Pick g (IsO (plainObj C (some gd) #[])) ps r) (h2 : Pick gd (IsS prog w kvs) ps r')
    (h : ∀ s', Own σ ((gd, IsS prog w kvs) :: r') s' → R (.ok (.ret (.ref gd))) s')
    (hgs : K.lookup gs = some ⟨.type "getset_descriptor", dd, .fields #[.str n tn, owner, .builtin "function.__dict__", .builtin "function.__dict__#set"], sl⟩) (how : mroIn K C owner = some true)
    (hst : mroIn K C (.type "staticmethod") = some false) (hcm : mroIn K C (.type "classmethod") = some false)
    (hcd : (clsIn K C).any (·.hasDict) = true) :
    codeOk (model prog w) A (.call (.builtin "getset_descriptor.__get__") ⟨[.ref gs, .ref g, .ref C], []⟩) R s := by
  obtain ⟨od, hS, I⟩ := inst_dict O h1 h2
  have KX := O.inK X
  have ho := KX _ _ hgs
  refine codeOk_call_builtin KF.slot_gs.plain KF.entry_gs (by rfl) (KF.slot_gs.check _ _ _ _ _ _ _ _ ⟨_, ho, rfl⟩ (KF.args_gs _ _ _) ?_)
  have L0 := I.type (M := model prog w)
  have L1 := looks_mroIn (M := model prog w) KX how
  have f0 := looks_field (M := model prog w) ho 0 (v := .str n tn) rfl
  have f1 := looks_field (M := model prog w) ho 1 (v := owner) rfl
  have f2 := looks_field (M := model prog w) ho 2 (v := .builtin "function.__dict__") rfl
  have f5 : Looks (model prog w) s.heap (Builtin.Getset_descriptor.descrItself (.ref gs)) [] := ((Looks.ld (part := none) ho).andThen .now).andThen (Looks.of_pure (by kernel_rfl))
  have hand := fun E' Q' => ok_handed (prog := prog) (w := w) (A := A.in1) (E := E') (Q := Q') (od := od) X O h1 h2
  have L2 := looks_mroIn (M := model prog w) KX hst
  have L3 := looks_mroIn (M := model prog w) KX hcm
  obtain ⟨hh, gg, dr, t, os⟩ := s
  refine ok_any ?_
  unfold Builtin.«getset_descriptor.__get__» Builtin.Getset_descriptor.descrGet
  rw [dga_obj]
  refine wpAny_bind (wpAny_pure ?_)
  unfold Builtin.Getset_descriptor.descrGetter Builtin.Getset_descriptor.descrCheckInstance Builtin.Getset_descriptor.descrNameAndClass isInstance
  repeat lk
  refine ⟨Code.quiet_builtin _ (by decide +kernel), by rfl, codeOk_builtin fd_entry ?_⟩
  unfold Builtin.«function.__dict__» isInstance
  refine ok_bind (ok_any ?_)
  repeat lk
  refine ok_bind (ok_handed (od := od) X O h1 h2 (fun s' O' => ok_pure (h s' O')) hcd)
end
end Mine
end

-- Gr2
section
open PySem PySem.W PyProof.Rows PySem.Calls
set_option Elab.async false
set_option maxRecDepth 100000
set_option maxHeartbeats 1000000
set_option linter.unusedVariables false
namespace Mine
section
variable {prog : Program} {w : World} {A : Around} {E : Value → Shared → Prop} {σ s : Shared} {env : Env} {ps r r' r'' : List HP} {mg mb m : Str → Option Value} {R : Result → Shared → Prop}

/-- cached_property.__get__, the first time: the function is called, its value kept under its name -/
theorem cp_get {g gd cp cpd fn C gs oa : Addr} {kvs : List (Str × Value)} {n : Nat} {ocp od : Obj} {ta : Tok} {onm : Str} {otn : Tok} {owner : Value} {dd : Option Addr} {sl : Array (Option Value)} (X : PF (KF w) σ mg mb)
    (O : Own σ ((g, IsO (plainObj C (some gd) #[])) :: (gd, IsS prog w kvs) :: ps) s) (hr : Room A (n + 4))
    (hcp : (KF w).lookup cp = some ocp) (hcpd : (KF w).lookup cpd = some od) (hdd : ocp.dict = some cpd) (hcls : ocp.cls = .ref 423) (hno : notCls ocp = true)
    (ha : findObj (KF w) 423 (some od) "attrname" = some (.value (.str "adj" ta))) (hfn : findObj (KF w) 423 (some od) "func" = some (.value (.ref fn)))
    (hkf : keepIn (KF w) (.ref fn) = true)
    (hgs : ∀ od, findObj (KF w) C (some od) "__dict__" = some (.bind (.builtin "getset_descriptor.__get__") (.ref gs)))
    (hga : findIn (KF w) (.ref C) "__getattribute__" = some (some (.builtin "object.__getattribute__"))) (hgb : findIn (KF w) (.ref C) "__getattr__" = some none)
    (hgl : (KF w).lookup gs = some ⟨.type "getset_descriptor", dd, .fields #[.str onm otn, owner, .builtin "function.__dict__", .builtin "function.__dict__#set"], sl⟩) (how : mroIn (KF w) C owner = some true)
    (hst : mroIn (KF w) C (.type "staticmethod") = some false) (hcm : mroIn (KF w) C (.type "classmethod") = some false) (hcd : (clsIn (KF w) C).any (·.hasDict) = true)
    (hv : valueAt kvs "adj" = none) (hz : kvs.length ≤ sizeLine)
    (call : ∀ (A' : Around) s' (R' : Result → Shared → Prop) ps', Own σ ((g, IsO (plainObj C (some gd) #[])) :: (gd, IsS prog w kvs) :: ps') s' → Room A' (n + 2) → (∀ av ax s'', Own σ ((av, IsO (plainObj 142 (some ax) #[some (.ref oa)])) :: (ax, IsS prog w []) :: (g, IsO (plainObj C (some gd) #[])) :: (gd, IsS prog w kvs) :: ps') s'' → R' (.ok (.ret (.ref av))) s'') →
      codeAny (model prog w) A' (.call (.ref fn) ⟨[.ref g], []⟩) R' s')
    (h : ∀ av ax s', Own σ ((av, IsO (plainObj 142 (some ax) #[some (.ref oa)])) :: (ax, IsS prog w []) :: (g, IsO (plainObj C (some gd) #[])) :: (gd, IsS prog w (kvs ++ [(("adj" : Str), (.ref av : Value))])) :: ps) s' → R (.ok (.ret (.ref av))) s') :
    codeOk (model prog w) A (.call (.ref 413) ⟨[.ref cp, .ref g, .ref C], []⟩) R s := by
  refine cok_def X O hr rfl rfl (binds := [("self", .ref cp), ("instance", .ref g), ("owner", .ref C)]) (binds_K (O.inK X) rfl rfl rfl rfl rfl) fun L s1 E' O1 hr1 => ?_
  refine ok_execs_cons (ok_any ?_)
  refine wpAny_If (wpAny_isTrue_Compare1 (r_ld O1 (r_none ?_) (hv := rfl)))
  refine wpAny_is_other rfl (fun e => nomatch e) (wpAny_truthy_bool ?_)
  refine wpAny_execs_nil ?_
  refine ok_execs_cons (ok_any ?_)
  refine wpAny_If (wpAny_isTrue_Compare1 (Attribute_any_ (r_ld O1 ?_ (hv := rfl))))
  refine r_attrK X O1 (fun s2 O2 => ?_) hcp hcpd hdd hcls hno ha rfl rfl
  refine r_none ?_
  refine wpAny_is_other rfl (fun e => nomatch e) (wpAny_truthy_bool ?_)
  refine wpAny_execs_nil ?_
  refine ok_execs_cons ?_
  refine ok_Try (ok_execs_cons (ok_Assign_Name (ok_Attribute (ok_any (r_ld O2 ?_ (hv := rfl))))))
  refine ok_attrBind X O2 (fun s3 E3 O3 => ?_) (.there .here) (.there (.there .here)) (fun od _ => hgs od) hga hgb
  refine ok_call (ok_dictGet X O3 (.there .here) (.there (.there .here)) (fun s4 O4 => ⟨rfl, ?_⟩) hgl how hst hcm hcd)
  refine r_st O4 fun s5 O5 => ?_
  refine ok_any (wpAny_execs_nil ?_)
  refine ok_any (wpAny_execs_nil ?_)
  -- val = cache.get(self.attrname, _NOT_FOUND)
  refine ok_any (wpAny_execs_cons (wpAny_Assign_Name (methodCall_KW (r_ld O5 ?_))))
  refine r_methGetS O5 ?_ (.there .here)
  refine callWith_method1 (spliced_more (Attribute_any_ (r_ld O5 ?_ (hv := upd_other (by decide) rfl))))
  refine r_attrK X O5 (fun s6 O6 => ?_) hcp hcpd hdd hcls hno ha rfl rfl
  refine spliced_more (r_glob X O6 ?_ (v := .ref 384))
  refine spliced_none ?_
  refine r_getS X O6 (fun s7 O7 => ?_) hv (.there .here)
  refine r_st O7 fun s8 O8 => ?_
  -- if val is _NOT_FOUND
  refine wpAny_execs_cons (wpAny_If (wpAny_isTrue_Compare1 (r_ld O8 (r_glob X O8 ?_ (v := .ref 384)))))
  refine wpAny_is_ref_self (wpAny_truthy_bool ?_)
  refine wpAny_execs_cons (wpAny_Assign_Name (methodCall_KW (r_ld O8 ?_ (hv := upd_other (by decide) (upd_other (by decide) rfl)))))
  refine r_methK X O8 (fun s9 O9 => ?_) hcp hcpd hdd hcls hno hfn rfl rfl rfl rfl
  refine callWith_K X.K hkf (spliced_more (r_ld O9 ?_ (hv := upd_other (by decide) (upd_other (by decide) rfl))))
  refine spliced_none ⟨O9.inK X, wpAny_call ?_⟩
  refine call _ _ _ _ O9.to (hr1.less (by omega)) fun av ax s10 O10 => ?_
  refine r_st O10 fun s11 O11 => ?_
  refine wpAny_execs_cons (wpAny_Try_except (wpAny_execs_cons (wpAny_Assign_Subscript (r_ld O11 (r_ld O11 ?_ (hv := upd_other (by decide) (upd_other (by decide) (upd_same _ _ _)))) ))))
  refine Attribute_any_ (r_ld O11 ?_ (hv := upd_other (by decide) (upd_other (by decide) (upd_other (by decide) rfl))))
  refine r_attrK X O11 (fun s12 O12 => ?_) hcp hcpd hdd hcls hno ha rfl rfl
  refine r_setS X O12 (fun s13 O13 => ?_) hv hz (by repeat (first | exact Pick.here | apply Pick.there | apply Pick.right))
  refine wpAny_execs_nil ?_
  refine wpAny_execs_nil ?_
  refine wpAny_execs_nil ?_
  refine wpAny_execs_cons (wpAny_Return_some (r_ld O13 ?_ (hv := upd_same _ _ _)))
  exact h _ _ _ O13.to
end
end Mine
end

-- Gr3
section
open PySem PySem.W PyProof.Rows PySem.Calls
set_option Elab.async false
set_option maxRecDepth 100000
set_option maxHeartbeats 1000000
set_option linter.unusedVariables false
namespace Mine
section
variable {prog : Program} {w : World} {A : Around} {E : Value → Shared → Prop} {σ s : Shared} {env : Env} {ps r r' : List HP} {K : Frag} {mg mb m : Str → Option Value} {R : Result → Shared → Prop} {g gd C : Addr} {kvs : List (Str × Value)} {name : Str}
/-- a subscript of an object by its class's own __getitem__, over every context -/
theorem a_sub {value slice : Expr} {i : Value} {f : Addr} {sl : Array (Option Value)} {oc : Value} {od : Option Addr} {osl : Array (Option Value)} {fd : FuncData} {Q : Value → Shared → Prop} (X : PF K σ mg mb) (O : Own σ ps s)
    (h : wpAny (model prog w) A.in1 (call (.ref f) [.ref g, i]) Q E s)
    (hg : Pick g (IsO (plainObj C (some gd) sl)) ps r) (hd : Pick gd (IsS prog w kvs) ps r')
    (hs : findIn K (.ref C) "__getitem__" = some (some (.ref f)) := by rfl) (hf : K.lookup f = some ⟨oc, od, .func fd, osl⟩ := by rfl) (hfn : typeIn K (.ref f) = some (.type "function") := by rfl)
    (hsl : subscripted slice true (.ref g) i = runValue (.builtin "lifetime.subscript" ⟨[.ref g, i], []⟩) := by with_unfolding_all rfl) :
    wpAny (model prog w) A (subscriptTail value slice (.ref g) i) Q E s := by
  obtain ⟨od', hS, I⟩ := inst_dict O hg hd
  have KX := O.inK X
  unfold subscriptTail getitemInPython
  refine wpAny_bind (wpAny_bind (wpAny_bind (I.type.here ((looks_findIn KX hs).here ?_))))
  dsimp only
  refine wpAny_bind (wpAny_load (KX _ _ hf) (wpAny_pure ?_))
  dsimp only
  rw [hsl]
  refine wpAny_bind (wpAny_runValue (codeAny_builtin entry_sub ?_))
  unfold Builtin.«lifetime.subscript» callSpecial? specialOf
  refine wpAny_bind (wpAny_bind (wpAny_bind (I.type.here ((looks_findIn KX hs).here ?_))))
  refine wpAny_holding (wpAny_bind ((bind_fn KX _ hfn).here ?_))
  refine wpAny_bind (wpAny_mono h (fun v s' z => ?_) fun _ _ z => z)
  refine wpAny_pure (wpAny_pure ?_)
  show wpAny (model prog w) A (letTemporaryGo value (.ref g) v >>= fun _ => pure v) Q E s'
  exact wpAny_bind (wpAny_letTemporaryGo (wpAny_pure z))
end

/-- the two graph classes: class, its `adj` descriptor, that one's dict, the function behind it, the field it shows -/
inductive GC : Addr → Addr → Addr → Addr → Str → Prop
  | un : GC 638 452 451 450 "_adj"
  | di : GC 814 670 669 668 "_succ"

section
variable {prog : Program} {w : World} {A : Around} {E : Value → Shared → Prop} {σ s : Shared} {env : Env} {ps r r' r'' : List HP} {mg mb m : Str → Option Value} {R : Result → Shared → Prop} {C cp cpd fn g gd od d : Addr} {nm : Str} {kvs : List (Str × Value)} {outer : List (Int × Value)} {v : Int} {t : Tok} {n : Nat}

theorem adj_fn (G : GC C cp cpd fn nm) (X : PF (KF w) σ mg mb) (O : Own σ ps s) (hr : Room A (n + 3))
    (hg : Pick g (IsO (plainObj C (some gd) #[])) ps r) (hd : Pick gd (IsS prog w kvs) ps r') (hv : valueAt kvs nm = some (.ref od))
    (h : ∀ av ax s', Own σ ((av, IsO (plainObj 142 (some ax) #[some (.ref od)])) :: (ax, IsS prog w []) :: ps) s' → R (.ok (.ret (.ref av))) s') :
    codeAny (model prog w) A (.call (.ref fn) ⟨[.ref g], []⟩) R s := by
  cases G
  all_goals
    refine c_def X O hr rfl rfl (binds := [("self", .ref g)]) (BindsTo.of_eq rfl) fun L s1 E' O1 hr1 => ?_
    refine wpAny_execs_cons (wpAny_Return_some ?_)
    refine wpAny_Call_NameR (r_glob X O1 ?_ (v := .ref 142))
    refine callWith_K X.K (by rfl) ?_
    refine spliced_more (Attribute_any_ (r_ld O1 ?_ (hv := rfl)))
    refine r_attr X O1 (fun s2 O2 => ?_) (hg := hg.there) (hd := hd.there) (hv := hv)
    refine spliced_none ⟨O2.inK X, wpAny_call ?_⟩
    exact adj_make X O2 hr1 fun x dx s3 O3 => h _ _ _ O3.to

theorem adj_find (G : GC C cp cpd fn nm) (hadj : valueAt kvs "adj" = none) : ∀ o, IsS prog w kvs o → findObj (KF w) C (some o) "adj" = some (.bind (.ref 413) (.ref cp)) := fun o hS => by
  have hod := (hS.look "adj").trans (congrArg some hadj)
  cases G
  · with_unfolding_all exact congrArg (fun z => Option.bind z _) hod
  · with_unfolding_all exact congrArg (fun z => Option.bind z _) hod

/-- Graph.__getitem__, the first time -/
theorem getitem_first (G : GC C cp cpd fn nm) (X : PF (KF w) σ mg mb) (O : Own σ ((g, IsO (plainObj C (some gd) #[])) :: (gd, IsS prog w kvs) :: ps) s) (hr : Room A (n + 7))
    (hnm : valueAt kvs nm = some (.ref od)) (hadj : valueAt kvs "adj" = none) (hz : kvs.length ≤ sizeLine) (hod : Pick od (IsD prog w outer) ps r) (hv : valueAt outer v = some (.ref d))
    (h : ∀ av ax x dx s', Own σ ((x, IsO (plainObj 120 (some dx) #[some (.ref d)])) :: (dx, IsS prog w []) :: (av, IsO (plainObj 142 (some ax) #[some (.ref od)])) :: (ax, IsS prog w []) :: (g, IsO (plainObj C (some gd) #[])) :: (gd, IsS prog w (kvs ++ [(("adj" : Str), (.ref av : Value))])) :: ps) s' → R (.ok (.ret (.ref x))) s') :
    codeOk (model prog w) A (.call (.ref 481) ⟨[.ref g, .int v t], []⟩) R s := by
  refine cok_def X O hr rfl rfl (binds := [("self", .ref g), ("n", .int v t)]) (BindsTo.of_eq rfl) fun L s1 E' O1 hr1 => ?_
  refine ok_execs_cons (ok_Return (ok_Subscript (ok_Attribute (ok_any (r_ld O1 ?_ (hv := rfl))))))
  have hfd := adj_find (prog := prog) (w := w) G hadj
  cases G
  all_goals
    refine ok_attrBind X O1 (fun s2 E2 O2 => ?_) (.there .here) (.there (.there .here)) hfd rfl rfl
    refine ok_call (cp_get (oa := od) X (O2.to (qs := (g, _) :: (gd, _) :: (L, _) :: ps)) (hr1.in1.less (by omega) (m := n + 1 + 4)) rfl rfl rfl rfl rfl rfl rfl rfl (fun _ => rfl) rfl rfl rfl rfl rfl rfl rfl hadj hz ?_ ?_)
    · exact fun A' s' R' ps' O' hr' k => adj_fn (by constructor) X O' hr' .here (.there .here) hnm k
    · refine fun av ax s3 O3 => ⟨rfl, ?_⟩
      refine ok_any (r_ld O3 ?_ (hv := rfl))
      refine ok_any (a_sub X O3 (wpAny_call ?_) .here (.there .here))
      exact adj_item X O3 (hr1.in1.less (m := n + 3) (by omega)) .here (.there .here) (.there (.there (.there (.there (.there hod))))) hv fun x dx s4 O4 => h _ _ _ _ _ O4.to

/-- Graph.__getitem__, once the view is kept -/
theorem getitem_next {av ax : Addr} (G : GC C cp cpd fn nm) (X : PF (KF w) σ mg mb) (O : Own σ ps s) (hr : Room A (n + 5))
    (hg : Pick g (IsO (plainObj C (some gd) #[])) ps r) (hd : Pick gd (IsS prog w kvs) ps r') (ha : Pick av (IsO (plainObj 142 (some ax) #[some (.ref od)])) ps r'') {q q' : List HP} (hx : Pick ax (IsS prog w []) ps q) (hadj : valueAt kvs "adj" = some (.ref av)) (hod : Pick od (IsD prog w outer) ps q') (hv : valueAt outer v = some (.ref d))
    (h : ∀ x dx s', Own σ ((x, IsO (plainObj 120 (some dx) #[some (.ref d)])) :: (dx, IsS prog w []) :: ps) s' → R (.ok (.ret (.ref x))) s') :
    codeAny (model prog w) A (.call (.ref 481) ⟨[.ref g, .int v t], []⟩) R s := by
  cases G
  all_goals
    refine c_def X O hr rfl rfl (binds := [("self", .ref g), ("n", .int v t)]) (BindsTo.of_eq rfl) fun L s1 E' O1 hr1 => ?_
    refine wpAny_execs_cons (wpAny_Return_some (Subscript_ (Attribute_any_ (r_ld O1 ?_ (hv := rfl)))))
    refine r_attr X O1 (fun s2 O2 => ?_) (hg := hg.there) (hd := hd.there) (hv := hadj)
    refine r_ld O2 ?_ (hv := rfl)
    refine a_sub X O2 (wpAny_call ?_) ha.there hx.there
    exact adj_item X O2 (hr1.in1.less (m := n + 3) (by omega)) ha.there hx.there hod.there hv fun x dx s4 O4 => h _ _ _ O4.to
end
end Mine
end

-- Num
section
open PySem PySem.W PyProof.Rows PySem.Calls
set_option Elab.async false
set_option maxRecDepth 100000
set_option maxHeartbeats 1000000
set_option linter.unusedVariables false
namespace Mine
section
variable {prog : Program} {w : World} {A : Around} {E : Value → Shared → Prop} {σ s : Shared} {env : Env} {ps r r' : List HP} {mg mb : Str → Option Value} {R : Result → Shared → Prop} {n : Nat}
theorem isL_I {l : Addr} {vs : List Value} {xs : List Int} (O : Own σ ((l, IsL vs) :: ps) s) (h : IntsAre vs xs) : Own σ ((l, IsI xs) :: ps) s := O.closeI h
/-- a slice from the start of a list that stood before -/
theorem r_sliceTo {value slice : Expr} {l : Addr} {vs : List Value} {xs : List Int} {y : Int} {t : Tok} {Q : Value → Shared → Prop} (O : Own σ ps s) (hl : s.heap.IsList l vs.toArray) (hi : IntsAre vs xs) (h0 : 0 ≤ y) (hz : vs.length ≤ 1000)
    (h : ∀ a s', Own σ ((a, IsI (xs.take y.toNat)) :: ps) s' → Q (.ref a) s')
    (hs : subscripted slice false (.ref l) (.ref s.heap.objs.size) = operate [.ref s.heap.objs.size, .ref l] (getItem (.ref l) (.ref s.heap.objs.size)) := by with_unfolding_all rfl)
    (ht : ∀ r, letTemporaryGo value (.ref l) r = pure () := by intro _; with_unfolding_all rfl) :
    wpAny (model prog w) A (subscriptTail value slice (.ref l) (.ref s.heap.objs.size)) Q E { s with heap := s.heap.push { cls := .type "slice", data := .fields #[.none, .int y t, .none] } } := by
  refine subscriptTail_ops (Heap.IsList.typeIs (s := { s with heap := s.heap.push { cls := .type "slice", data := .fields #[.none, .int y t, .none] } }) (hl.push _)) list_getitem_lookup
    (wpAny_getItem_list_slice (hl.push _) (Heap.IsSliceOf.new ..) .none (.int y t) .none (by simp) ?_ (by rw [List.size_toArray, sizeLine_eq]; omega)) hs ht
  have O1 := O.push (o := { cls := .type "slice", data := .fields #[.none, .int y t, .none] }) (P := fun _ => True) trivial (t := s.toks)
  have O2 := O1.push (o := { cls := .type "list", data := .seq (slicePick vs.toArray none (some y) none) }) (P := IsI (xs.take y.toNat)) ⟨(slicePick vs.toArray none (some y) none).toList, 0, by simp, slice_ints_uptoW hi h0⟩ (t := s.toks)
  exact h _ _ (O2.perm (.swap _ _ _)).tail
theorem list_keep {sa : Addr} {vs : List Value} (O : Own σ ps s) (hs : σ.heap.IsList sa vs.toArray) : s.heap.IsList sa vs.toArray := let ⟨o, ho, r⟩ := hs; ⟨o, O.keep _ _ ho, r⟩
theorem r_nextB {I l : Addr} {i : Nat} {vs : List Value} {v : Value} {Q : Option Value → Shared → Prop} (O : Own σ ((I, IsLI l i) :: ps) s) (hl : σ.heap.IsList l vs.toArray) (hx : vs[i]? = some v)
    (h : ∀ s', Own σ ((I, IsLI l (i + 1)) :: ps) s' → Q (some v) s') : wpAny (model prog w) A (pyNext (.ref I)) Q E s := by
  obtain ⟨o, ho, h1, h2⟩ := O.get .here
  refine wpAny_pyNext_list_item ⟨o, ho, h1, h2⟩ (list_keep O hl) (x := v) (by simpa using hx) fun h' ⟨o', ho', h1', h2'⟩ hs => ?_
  exact h _ (O.upd (t := s.toks) .here hs.extBut ⟨o', ho', h1', h2'⟩)
theorem r_endB {I l : Addr} {i : Nat} {vs : List Value} {Q : Option Value → Shared → Prop} (O : Own σ ((I, IsLI l i) :: ps) s) (hl : σ.heap.IsList l vs.toArray) (hh : A.handled = none) (hx : vs[i]? = none)
    (h : ∀ s', Own σ ps s' → Q none s') : wpAny (model prog w) A (pyNext (.ref I)) Q E s := by
  obtain ⟨o, ho, h1, h2⟩ := O.get .here
  exact wpAny_pyNext_list_end hh ⟨o, ho, h1, h2⟩ (list_keep O hl) (by simpa using hx) fun h' hs => h _ (O.gone (t := s.toks) .here hs)
theorem r_lenI {a : Addr} {xs : List Int} {Q : Value → Shared → Prop} (O : Own σ ps s) (hp : Pick a (IsI xs) ps r) (hz : xs.length ≤ 1000) (h : ∀ u s', Own σ ps s' → Q (.int xs.length u) s') : wpAny (model prog w) A (call (.builtin "len") [.ref a]) Q E s := by
  obtain ⟨vs, hi, O1⟩ := O.openI hp
  have hl := isList_of O1 .here
  have e : vs.toArray.size = xs.length := by rw [List.size_toArray, ints_len hi]
  refine call_len_list hl (by rw [e]; omega) ?_
  rw [e]
  exact h _ _ (O.toks (t := s.toks + 1 + 1))
theorem numbers {sa : Addr} {vs : List Value} {xs : List Int} {t : Tok} (X : PF (KF w) σ mg mb) (O : Own σ ps s) (hs : σ.heap.IsList sa vs.toArray) (hi : IntsAre vs xs) (hz : vs.length ≤ 1000) (hr : Room A (n + 2))
    (h : ∀ fa fs s', fs.length = 7 → Own σ ((fa, IsI fs) :: ps) s' → R (.ok (.ret (.ref fa))) s') : codeAny (model prog w) A (.call (.ref 829) ⟨[.ref sa, .int 7 t], []⟩) R s := by
  refine c_def X O hr rfl rfl (binds := [("script", .ref sa), ("many", .int 7 t)]) (BindsTo.of_eq rfl) fun L s1 E' O1 hr1 => ?_
  refine wpAny_execs_cons (r_compAssign (σ := σ) (by rfl) (cl := []) (by rfl) (by decide) (by rfl) (by decide) ?_)
  refine Subscript_ (r_ld O1 (wpAny_Slice (wpAny_pure ?_)) (hv := rfl))
  show wpAny _ _ (eval _ _) _ _ _
  refine r_ld O1 (wpAny_pure ?_) (hv := rfl)
  refine r_sliceTo O1 (list_keep O1 hs) hi (by decide) hz fun a s2 O2 => ?_
  refine r_iterI O2 (fun I s3 O3 => ?_) .here
  refine ⟨I, IsLI a 0, _, rfl, O3, fun O' q => iterI.self (xs := xs) O' q, fun acc C s4 O4 => ?_⟩
  have hlt : (xs.take 7).length ≤ 7 := List.length_take_le _ _
  refine comp_last (xs := xs.take 7) (It := IsLI a) (Need := fun ps => ∃ r, Pick a (IsI (xs.take 7)) ps r) (i := 0) (outs := []) rfl rfl iterI hr1.hh rfl rfl rfl (fun _ => True) (fun _ _ _ => trivial) (fun i outs => IntsAre outs ((xs.take 7).take i)) (fun i outs hI => by rw [ints_len hI, List.length_take]; omega)
    (fun _ _ => (a, IsI (xs.take 7)) :: (L, IsNs _) :: ps) (fun _ _ _ => ⟨_, .there (.there .here)⟩) O4 trivial .nil (Nat.zero_le _) (fun i x t m outs s5 E5 hx _ hm hI O5 => ?_) (fun m outs s5 _ hI O5 => ?_)
  · refine wpAny_tests_nil ?_
    rw [if_pos rfl]
    refine r_ld O5 ⟨?_, O5.to⟩ (hv := hm)
    rw [List.take_add_one, hx]
    exact ints_snoc hI x t
  · rw [List.take_length] at hI
    refine ⟨rfl, wpAny_assign_Name (r_st O5 fun s6 O6 => ?_)⟩
    refine ⟨m, _, (O6.perm (.swap _ _ _)), fun s7 O7 => ?_⟩
    have O8 := (O7.to (qs := (acc, IsL outs) :: (L, IsNs _) :: ps)).closeI hI
    clear O7 O6 O5 O4 O3 O2 O1
    refine wpAny_execs_cons (wpAny_Assign_Name (wpAny_BinOp (r_int O8 fun t9 s9 O9 => ?_)))
    refine wpAny_Call_NameR (r_bltn X O9 ?_ (v := .builtin "len") (hv := by kernel_rfl))
    refine PyProof.Rows.callWith_builtin1 (spliced_more (r_ld O9 (spliced_none ?_) (hv := upd_other (by decide) rfl)))
    refine call_len_list (list_keep O9 hs) (by rw [List.size_toArray]; omega) ?_
    refine r_add (O9.toks (t := s9.toks + 1 + 1)) fun t10 s10 O10 => ?_
    refine r_st O10 fun s11 O11 => ?_
    refine wpAny_execs_cons (wpAny_For (r_ld O11 ?_ (hv := upd_other (by decide) (upd_other (by decide) rfl))))
    refine wpAny_pyIter_list (list_keep O11 hs) ?_
    have O12 := O11.push (o := { cls := .type "list_iterator", data := .fields #[.ref sa, rawInt 0] }) (P := IsLI sa 0) ⟨rfl, rfl⟩ (t := s11.toks)
    refine codeAny_forLoop (fun k s => ∃ (i : Nat) (m : Str → Option Value) (z : Int) (tz : Tok), k = vs.length - i ∧ i ≤ vs.length ∧ m "found" = some (.ref acc) ∧ m "many" = some (.int 7 t) ∧ m "last" = some (.int z tz) ∧ Own σ ((s11.heap.objs.size, IsLI sa i) :: (L, IsNs m) :: (acc, IsI (xs.take 7)) :: ps) s) ?_ _
      ⟨0, _, 7 + (vs.toArray.size : Nat), t10, rfl, Nat.zero_le _, ?_, ?_, ?_, O12.to⟩
    rotate_left
    · exact upd_other (by decide) (upd_same _ _ _)
    · exact upd_other (by decide) (upd_other (by decide) rfl)
    · exact upd_same _ _ _
    rintro k s12 ⟨i, m, z, tz, rfl, hi, h1, h2, h3, O13⟩
    rcases Nat.lt_or_ge i vs.length with hlt2 | hge
    · have hv : ∃ x tx, vs[i]? = some (.int x tx) := by
        have hx : i < xs.length := by rw [← ints_len ‹IntsAre vs xs›]; exact hlt2
        obtain ⟨tx, hv⟩ := ints_at ‹IntsAre vs xs› (List.getElem?_eq_getElem hx)
        exact ⟨_, tx, hv⟩
      obtain ⟨x, tx, hv⟩ := hv
      refine r_nextB O13 hs hv fun s14 O14 => ?_
      refine wpAny_assign_Name (r_st O14 (fun s15 O15 => ?_) (hp := .there .here))
      refine wpAny_execs_cons (wpAny_Assign_Name (wpAny_BinOp (wpAny_BinOp (wpAny_BinOp (r_ld O15 (r_int O15 fun t16 s16 O16 => mul_int ?_) (hv := upd_other (by decide) h3))))))
      have O17 := O16.toks (t := s16.toks + 1)
      refine r_ld O17 (r_add O17 fun t18 s18 O18 => r_int O18 fun t19 s19 O19 => r_mod O19 (by decide) fun t20 s20 O20 => ?_) (hv := upd_same _ _ _)
      refine r_st O20 fun s21 O21 => ?_
      refine wpAny_execs_nil ⟨vs.length - (i + 1), by omega, i + 1, _, (z * 31 + x).fmod 2147483647, t20, rfl, hlt2, ?_, ?_, ?_, O21.to⟩
      · exact upd_other (by decide) (upd_other (by decide) h1)
      · exact upd_other (by decide) (upd_other (by decide) h2)
      · exact upd_same _ _ _
    · refine r_endB O13 hs hr1.hh (List.getElem?_eq_none (by omega)) fun s14 O14 => ?_
      refine wpAny_execs_nil ?_
      refine wpAny_execs_cons (wpAny_While (codeAny_whileLoop (fun k s => ∃ (fs : List Int) (m : Str → Option Value) (z : Int) (tz : Tok), k = 7 - fs.length ∧ fs.length ≤ 7 ∧ m "found" = some (.ref acc) ∧ m "many" = some (.int 7 t) ∧ m "last" = some (.int z tz) ∧ Own σ ((L, IsNs m) :: (acc, IsI fs) :: ps) s) ?_ _ ⟨_, m, z, tz, rfl, hlt, h1, h2, h3, O14⟩))
      rintro k s15 ⟨fs, m, z, tz, rfl, hl7, h1, h2, h3, O15⟩
      refine wpAny_isTrue_Compare1 (wpAny_Call_NameR (r_bltn X O15 ?_ (v := .builtin "len") (hv := by kernel_rfl)))
      refine PyProof.Rows.callWith_builtin1 (spliced_more (r_ld O15 (spliced_none ?_) (hv := h1)))
      refine r_lenI O15 (.there .here) (by omega) fun u s16 O16 => ?_
      refine r_ld O16 (r_lt (wpAny_truthy_bool ?_)) (hv := h2)
      rcases Nat.lt_or_ge fs.length 7 with h7 | h7
      · rw [decide_eq_true (by omega)]
        refine wpAny_execs_cons (wpAny_Assign_Name (wpAny_BinOp (wpAny_BinOp (wpAny_BinOp (r_ld O16 (r_int O16 fun t17 s17 O17 => mul_int ?_) (hv := h3))))))
        have O18 := O17.toks (t := s17.toks + 1)
        refine r_int O18 fun t19 s19 O19 => r_add O19 fun t20 s20 O20 => r_int O20 fun t21 s21 O21 => r_mod O21 (by decide) fun t22 s22 O22 => ?_
        refine r_st O22 fun s23 O23 => ?_
        refine wpAny_execs_cons (wpAny_Expr_any (methodCall_KW (r_ld O23 ?_ (hv := upd_other (by decide) h1))))
        refine r_methAppend O23 ?_ (.there .here)
        refine callWith_method1 (spliced_more (wpAny_BinOp (r_ld O23 (r_int O23 fun t24 s24 O24 => PyProof.Rows.floordiv_int (by decide) ?_ (hp := .inl (PyProof.noPylong_small (by decide)))) (hv := upd_same _ _ _))))
        refine spliced_none ?_
        refine r_appendI (O24.toks (t := s24.toks + 1)) (fun s25 O25 => ?_) (.there .here) (by rw [sizeLine_eq]; omega)
        refine wpAny_execs_nil ⟨7 - (fs ++ [((z * 48271 + 11).fmod 2147483647).fdiv 13]).length, by simp; omega, fs ++ [((z * 48271 + 11).fmod 2147483647).fdiv 13], _, (z * 48271 + 11).fmod 2147483647, t22, rfl, by simp; omega, ?_, ?_, ?_, O25.to⟩
        · exact upd_other (by decide) h1
        · exact upd_other (by decide) h2
        · exact upd_same _ _ _
      · rw [decide_eq_false (by omega)]
        refine wpAny_execs_nil ?_
        refine wpAny_execs_cons (wpAny_Return_some (r_ld O16 ?_ (hv := h1)))
        exact h acc fs s16 (by omega) O16.to
end
end Mine
end

-- Lst
section
open PySem PySem.W PyProof.Rows PySem.Calls
set_option Elab.async false
set_option maxRecDepth 100000
set_option maxHeartbeats 1000000
set_option linter.unusedVariables false
namespace Mine
section
variable {prog : Program} {w : World} {A : Around} {E : Value → Shared → Prop} {σ s : Shared} {env : Env} {ps r r' : List HP} {K : Frag} {mg mb m : Str → Option Value} {R : Result → Shared → Prop} {l a : Addr} {vs : List Value} {xs : List Int} {k x y : Int} {t u : Tok} {v : Value}
/-- an item of a list, by an index from its start -/
theorem r_subL {value slice : Expr} {Q : Value → Shared → Prop} (O : Own σ ps s) (h : Q v s) (h0 : 0 ≤ k) (hfit : k < 2 ^ 63) (hx : vs[k.toNat]? = some v) (hp : Pick l (IsL vs) ps r)
    (hs : subscripted slice false (.ref l) (.int k t) = operate [.ref l, .int k t] (getItem (.ref l) (.int k t)) := by with_unfolding_all rfl) : wpAny (model prog w) A (subscriptTail value slice (.ref l) (.int k t)) Q E s :=
  tail_any (isList_of O hp).typeIs list_getitem_lookup (wpAny_getItem_list (isList_of O hp) h0 hfit (by simpa using hx) h) hs
theorem r_subI {value slice : Expr} {Q : Value → Shared → Prop} (O : Own σ ps s) (h : ∀ u s', Own σ ps s' → Q (.int x u) s') (h0 : 0 ≤ k) (hfit : k < 2 ^ 63) (hx : xs[k.toNat]? = some x) (hp : Pick l (IsI xs) ps r)
    (hs : subscripted slice false (.ref l) (.int k t) = operate [.ref l, .int k t] (getItem (.ref l) (.int k t)) := by with_unfolding_all rfl) : wpAny (model prog w) A (subscriptTail value slice (.ref l) (.int k t)) Q E s := by
  obtain ⟨vs, hi, O1⟩ := O.openI hp
  obtain ⟨u, hu⟩ := ints_at hi hx
  exact r_subL O1 (h u s ((O1.closeI hi).perm hp.perm.symm)) h0 hfit hu .here hs
theorem r_max {Q : Value → Shared → Prop} (O : Own σ ps s) (hh : A.handled = none) (h : ∀ u s', Own σ ps s' → Q (.int (max x y) u) s') : wpAny (model prog w) A (call (.builtin "max") [.int x t, .int y u]) Q E s := by
  refine max_two_ints hh fun h' tk hk => ?_
  have O' := O.stays (t := tk) hk
  by_cases hc : y > x
  · rw [if_pos hc]
    have e : max x y = y := by omega
    rw [e] at h; exact h _ _ O'
  · rw [if_neg hc]
    have e : max x y = x := by omega
    rw [e] at h; exact h _ _ O'
theorem r_fdiv {Q : Value → Shared → Prop} (O : Own σ ps s) (hy : y ≠ 0) (hs : y.natAbs < 1073741824) (h : ∀ u s', Own σ ps s' → Q (.int (x.fdiv y) u) s') : wpAny (model prog w) A (binaryOp .FloorDiv (.int x t) (.int y u)) Q E s :=
  PyProof.Rows.floordiv_int hy (h _ _ O.toks) (hp := .inl (PyProof.noPylong_small hs))
theorem r_pow {Q : Value → Shared → Prop} (O : Own σ ps s) (h0 : 0 ≤ y) (h1 : y ≤ 100) (hx : x.natAbs < 2 ^ 64) (h : ∀ u s', Own σ ps s' → Q (.int (x ^ y.toNat) u) s') : wpAny (model prog w) A (binaryOp .Pow (.int x t) (.int y u)) Q E s :=
  pow_int_small h0 (by omega) hx (h _ _ O.toks)
theorem r_mulR {Q : Value → Shared → Prop} (O : Own σ ps s) (hy : Builtin.Int.intBits y ≤ 64) (h : ∀ u s', Own σ ps s' → Q (.int (x * y) u) s') : wpAny (model prog w) A (binaryOp .Mult (.int x t) (.int y u)) Q E s :=
  mul_int (h _ _ O.toks) (.of_right hy)
theorem r_minus {Q : Value → Shared → Prop} (O : Own σ ps s) (h : ∀ u s', Own σ ps s' → Q (.int (x - y) u) s') : wpAny (model prog w) A (binaryOp .Sub (.int x t) (.int y u)) Q E s := sub_int (h _ _ O.toks)
theorem bits_small {y : Int} (h : y.natAbs < 2 ^ 60) : Builtin.Int.intBits y ≤ 64 := by
  unfold Builtin.Int.intBits
  split
  · omega
  · rename_i hy
    have : y.natAbs ≠ 0 := by intro e; apply hy; simp; omega
    have := (Nat.log2_lt this).mpr (show y.natAbs < 2 ^ 63 from Nat.lt_trans h (by decide))
    omega
theorem ints_items {vs : List Value} (h : IntsAre vs xs) : ∃ ys : Array (Int × Tok), vs.toArray = intItems ys ∧ ys.toList.map (·.1) = xs := by
  obtain ⟨ys, hx⟩ := h.allInts.items
  refine ⟨ys, hx, ?_⟩
  rw [← nums_intItems, ← hx]
  exact (show numsOf vs.toArray.toList = xs from h.numsOf)
theorem r_sum {Q : Value → Shared → Prop} (O : Own σ ps s) (hh : A.handled = none) (hp : Pick l (IsI xs) ps r) (h : ∀ u s', Own σ ps s' → Q (.int xs.sum u) s') : wpAny (model prog w) A (call (.builtin "sum") [.ref l]) Q E s := by
  obtain ⟨vs, hi, O1⟩ := O.openI hp
  obtain ⟨ys, h1, h2⟩ := ints_items hi
  refine sum_intListG hh (h1 ▸ isList_of O1 .here) fun h' tk t' hk => ?_
  rw [preSum_eq, List.take_of_length_le (by simp), h2]
  exact h t' _ (O.stays (t := tk) hk)
theorem r_sortedL {vs : List Value} {Q : Value → Shared → Prop} (O : Own σ ps s) (hl : s.heap.IsList l vs.toArray) (hi : IntsAre vs xs) (hz : xs.length < 64) (h : ∀ a ys s', ys.Perm xs → ys.Pairwise (· ≤ ·) → Own σ ((a, IsI ys) :: ps) s' → Q (.ref a) s') : wpAny (model prog w) A (call (.builtin "sorted") [.ref l]) Q E s := by
  refine sorted_ints hl hi (by rw [ints_len hi]; exact hz) fun out ns' h1 h2 h3 => ?_
  obtain ⟨e, he⟩ := sortedAll_at s.heap vs out
  have O2 : Own σ ((s.heap.objs.size + 1, IsI ns') :: ps) { s with heap := sortedAll s.heap vs out, toks := s.toks } := by
    refine ⟨fun b o q => sortedAll_old (O.keep b o q), fun p hp => ?_, fun p hp => ?_, O.top, ?_, O.gens, O.drawn, O.os⟩
    · rcases List.mem_cons.mp hp with rfl | hp
      · exact ⟨_, he, out.toList, e, by simp [seqObj], h1⟩
      · obtain ⟨o, ho, hP⟩ := O.mem p hp
        exact ⟨o, sortedAll_old ho, hP⟩
    · rcases List.mem_cons.mp hp with rfl | hp
      · exact Nat.le_trans O.size (Nat.le_succ _)
      · exact O.above p hp
    · rw [List.map_cons, List.nodup_cons]
      refine ⟨fun hm => ?_, O.nd⟩
      obtain ⟨q, hq, e⟩ := List.mem_map.mp hm
      have := O.lt q hq
      rw [e] at this
      exact absurd this (by simp)
  exact h _ ns' _ h2 h3 O2
theorem r_sorted {Q : Value → Shared → Prop} (O : Own σ ps s) (hp : Pick l (IsI xs) ps r) (hz : xs.length < 64) (h : ∀ a ys s', ys.Perm xs → ys.Pairwise (· ≤ ·) → Own σ ((a, IsI ys) :: ps) s' → Q (.ref a) s') : wpAny (model prog w) A (call (.builtin "sorted") [.ref l]) Q E s := by
  obtain ⟨vs, hi, O1⟩ := O.openI hp
  refine r_sortedL O1 (isList_of O1 .here) hi hz fun a ys s' h1 h2 O2 => h a ys s' h1 h2 ?_
  exact ((O2.perm (.swap _ _ _)).closeI hi).perm ((List.Perm.swap _ _ _).trans (hp.perm.symm.cons _))
/-- two lists of ints for equality -/
theorem r_eqI {ys : List Int} {Q : Value → Shared → Prop} (O : Own σ ps s) (hu : A.units + 64 < cLine) (h1 : Pick l (IsI xs) ps r) (h2 : Pick a (IsI ys) ps r') (h : Q (.bool (decide (xs = ys))) s) : wpAny (model prog w) A (compareOp .Eq (.ref l) (.ref a)) Q E s := by
  obtain ⟨o, ho, vs, n, e, hi⟩ := O.get h1
  obtain ⟨o', ho', vs', n', e', hi'⟩ := O.get h2
  exact eq_intsK ⟨o, ho, by rw [e], n, by rw [e]⟩ hi ⟨o', ho', by rw [e'], n', by rw [e']⟩ hi' hu h
theorem r_neI {ys : List Int} {Q : Value → Shared → Prop} (O : Own σ ps s) (hu : A.units + 64 < cLine) (h1 : Pick l (IsI xs) ps r) (h2 : Pick a (IsI ys) ps r') (h : Q (.bool (!decide (xs = ys))) s) : wpAny (model prog w) A (compareOp .NotEq (.ref l) (.ref a)) Q E s := by
  obtain ⟨o, ho, vs, n, e, hi⟩ := O.get h1
  obtain ⟨o', ho', vs', n', e', hi'⟩ := O.get h2
  exact ne_intsK ⟨o, ho, by rw [e], n, by rw [e]⟩ hi ⟨o', ho', by rw [e'], n', by rw [e']⟩ hi' hu h
end
end Mine
end

-- Tab
section
open PySem PySem.W PyProof.Rows PySem.Calls
set_option Elab.async false
set_option maxRecDepth 100000
set_option maxHeartbeats 2000000
set_option linter.unusedVariables false
namespace Mine
def ent0 (f1 f2 : Int) (n : Int) (u v : Int) : Int := if ((f1.fdiv (2 ^ ((u * n + v).fmod 19).toNat) + f2.fdiv (3 ^ ((u * n + v).fmod 17).toNat)).fmod 3 == 1) then 1 else 0
abbrev tabL (rt : Int → Addr) (n : Nat) : List Value := (rangeI n).map fun u => (.ref (rt u) : Value)
abbrev rowsHP (M : Int → Int → Int) (rt : Int → Addr) (n : Nat) : List HP := fam (fun u => IsI ((rangeI n).map (M u))) rt (rangeI n)
section
variable {prog : Program} {w : World} {A : Around} {E : Value → Shared → Prop} {σ s : Shared} {env : Env} {ps r r' : List HP} {mg mb : Str → Option Value} {R : Result → Shared → Prop} {n : Nat}
theorem r_methAppendL {l : Addr} {vs : List Value} {pl : Sem Bool} {Q : Value × List Value → Shared → Prop} (O : Own σ ps s) (h : Q (.builtin "list.append", [.ref l]) s) (hp : Pick l (IsL vs) ps r) : wpAny (model prog w) A (getMethod (.ref l) "append" pl) Q E s :=
  r_meth O h hp (fun o ⟨n, e⟩ => by subst e; exact ⟨rfl, rfl⟩) PySem.F.plainAttrs_list PySem.F.slot_list_append PySem.F.type_list_append
theorem fmod_nat {a b : Int} (hb : 0 < b) : ∃ k : Nat, a.fmod b = (k : Int) ∧ (k : Int) < b := by
  have h1 := Int.fmod_nonneg_of_pos a hb
  have h2 := Int.fmod_lt_of_pos a hb
  exact ⟨(a.fmod b).toNat, by omega, by omega⟩
theorem rangeI_nodup (n : Nat) : (rangeI n).Nodup := by
  unfold rangeI
  exact List.Pairwise.map _ (fun a b hab e => hab (Int.ofNat.inj e)) List.nodup_range
theorem not_mem_take' {N : List Int} (hn : N.Nodup) {i : Nat} (hlt : i < N.length) : N[i] ∉ N.take i := fun hm => by
  have e : N = N.take i ++ N[i] :: N.drop (i + 1) := by rw [← List.drop_eq_getElem_cons hlt, List.take_append_drop]
  rw [e] at hn
  exact (List.nodup_append.mp hn).2.2 _ hm _ (.head _) rfl
theorem perm_in' {a : HP} {F T : List HP} : (a :: (F ++ T)).Perm ((F ++ [a]) ++ T) := by rw [List.append_assoc]; exact List.perm_middle.symm
theorem p2_ok : ∀ e : Nat, e < 19 → ((2 : Int) ^ e ≠ 0 ∧ ((2 : Int) ^ e).natAbs < 1073741824) := by decide
theorem p3_ok : ∀ e : Nat, e < 17 → ((3 : Int) ^ e ≠ 0 ∧ ((3 : Int) ^ e).natAbs < 1073741824) := by decide
theorem take_rangeI {n i : Nat} (h : i < n) : (rangeI n).take (i + 1) = (rangeI n).take i ++ [(i : Int)] ∧ (i : Int) ∉ (rangeI n).take i := by
  refine ⟨by rw [List.take_add_one, rangeI_at h]; rfl, ?_⟩
  have hl : i < (rangeI n).length := by rw [rangeI_len]; exact h
  have := not_mem_take' (rangeI_nodup n) hl
  have e : (rangeI n)[i] = (i : Int) := by
    have := rangeI_at h
    rw [List.getElem?_eq_getElem hl] at this
    exact Option.some.inj this
  rwa [e] at this
theorem pick_famR {P : Int → Obj → Prop} {ra : Int → Addr} {N : List Int} {u : Int} (hu : u ∈ N) : ∃ r, Pick (ra u) (P u) (fam P ra N) r := by
  obtain ⟨l1, l2, rfl⟩ := List.append_of_mem hu
  refine ⟨fam P ra l1 ++ fam P ra l2, ?_⟩
  unfold fam
  rw [List.map_append, List.map_cons]
  exact .right .here
theorem Own.dropMid' {F M T : List HP} (O : Own σ (F ++ (M ++ T)) s) : Own σ (F ++ T) s :=
  ((O.perm (by rw [← List.append_assoc]; exact (List.perm_append_comm.append_right T)) : Own σ ((M ++ F) ++ T) s).perm (by rw [List.append_assoc]; exact List.perm_append_comm)).left
def refOf : Value → Addr
  | .ref a => a
  | _ => 0
abbrev zfam (P : Int → Obj → Prop) (us : List Int) (outs : List Value) : List HP := (us.zip outs).map fun p => (refOf p.2, P p.1)
theorem zfam_snoc {P : Int → Obj → Prop} {us : List Int} {outs : List Value} {u : Int} {a : Addr} (h : us.length = outs.length) : zfam P (us ++ [u]) (outs ++ [.ref a]) = zfam P us outs ++ [(a, P u)] := by
  unfold zfam
  rw [List.zip_append h, List.map_append]
  rfl
theorem zfam_fam {P : Int → Obj → Prop} {n : Nat} {outs : List Value} (hl : outs.length = n) (hr : ∀ v ∈ outs, ∃ a, v = .ref a) :
    ∃ rt : Int → Addr, zfam P (rangeI n) outs = fam P rt (rangeI n) ∧ outs = (rangeI n).map fun u => .ref (rt u) := by
  refine ⟨fun u => refOf (outs.getD u.toNat .none), ?_⟩
  subst hl
  have hg : ∀ i (h : i < outs.length), (rangeI outs.length)[i]'(by rw [rangeI_len]; exact h) = (i : Int) := fun i h => by
    have := rangeI_at h
    rw [List.getElem?_eq_getElem (by rw [rangeI_len]; exact h)] at this
    exact Option.some.inj this
  constructor
  · refine List.ext_getElem (by simp [rangeI_len]) fun i h1 h2 => ?_
    have hi : i < outs.length := by simpa [rangeI_len] using h1
    simp [hg i hi, hi]
  · refine List.ext_getElem (by simp [rangeI_len]) fun i h1 h2 => ?_
    obtain ⟨a, ha⟩ := hr _ (List.getElem_mem h1)
    simp [hg i h1, h1, ha, refOf]
theorem table_fn {fa : Addr} {fs : List Int} {k : Nat} (X : PF (KF w) σ mg mb) (O : Own σ ((fa, IsI fs) :: ps) s) (hf : fs.length = 7) (hr : Room A (k + 2))
    (h : ∀ tp ta rt (n : Nat) ow M tn s', 1 ≤ n → n ≤ 6 → (∀ u v, M u v = 0 ∨ M u v = 1) → (ow = false → ∀ u v, M u v = M v u) →
      Own σ ((tp, IsT [.int n tn, .bool ow, .ref ta]) :: (ta, IsL (tabL rt n)) :: (rowsHP M rt n ++ ((fa, IsI fs) :: ps))) s' → R (.ok (.ret (.ref tp))) s') :
    codeAny (model prog w) A (.call (.ref 834) ⟨[.ref fa], []⟩) R s := by
  obtain ⟨f0, f1, f2, f3, f4, f5, f6, rfl⟩ : ∃ f0 f1 f2 f3 f4 f5 f6, fs = [f0, f1, f2, f3, f4, f5, f6] := by
    match fs, hf with
    | [a, b, c, d, e, f, g], _ => exact ⟨_, _, _, _, _, _, _, rfl⟩
  refine c_defC (binds := [("found", .ref fa)]) X O hr rfl rfl rfl (fun L x hx => ?_) fun L s1 E' O1 hr1 => ?_
  · rw [List.mem_singleton] at hx
    subst hx
    exact .inr ⟨rfl, rfl⟩
  have O2 : Own σ ((L, IsNs fun _ => none) :: (L + 4, IsC none) :: (L + 3, IsC none) :: (L + 2, IsC none) :: (L + 1, IsC (some (.ref fa))) :: (fa, IsI [f0, f1, f2, f3, f4, f5, f6]) :: ps) s1 := O1
  clear O1
  refine wpAny_execs_cons (wpAny_Assign_Name (wpAny_BinOp (r_int O2 fun t3 s3 O3 => ?_)))
  refine wpAny_BinOp (wpAny_BinOp (Subscript_ (r_cell (c := L + 1) O3 (r_int O3 fun t4 s4 O4 => ?_) (.there (.there (.there (.there .here)))))))
  refine r_subI O4 (fun t5 s5 O5 => ?_) (by decide) (by decide) (x := f0) rfl (.there (.there (.there (.there (.there .here)))))
  refine r_int O5 fun t6 s6 O6 => r_add O6 fun t7 s7 O7 => r_int O7 fun t8 s8 O8 => r_mod O8 (by decide) fun t9 s9 O9 => r_add O9 fun t10 s10 O10 => ?_
  refine r_stC (c := L + 2) O10 (fun s11 O11 => ?_) (.there (.there (.there .here)))
  obtain ⟨nk, hnk, hnk2⟩ := fmod_nat (a := f0 + 1) (b := 6) (by decide)
  obtain ⟨nn, hnn, hn1, hn6⟩ : ∃ nn : Nat, 1 + (f0 + 1).fmod 6 = (nn : Int) ∧ 1 ≤ nn ∧ nn ≤ 6 := ⟨nk + 1, by rw [hnk]; push_cast; omega, by omega, by omega⟩
  rw [hnn] at O11
  clear hnn hnk hnk2 nk O10 O9 O8 O7 O6 O5 O4 O3 O2
  refine wpAny_execs_cons (wpAny_Assign_Name (wpAny_Compare1 (wpAny_BinOp (wpAny_BinOp (Subscript_ (r_cell (c := L + 1) O11 (r_int O11 fun t4 s4 O4 => ?_) (.there (.there (.there (.there .here)))))))))) 
  refine r_subI O4 (fun t5 s5 O5 => ?_) (by decide) (by decide) (x := f0) rfl (.there (.there (.there (.there (.there .here)))))
  refine r_int O5 fun t6 s6 O6 => r_fdiv O6 (by decide) (by decide) fun t7 s7 O7 => r_int O7 fun t8 s8 O8 => r_mod O8 (by decide) fun t9 s9 O9 => r_int O9 fun t16 s10 O10 => r_eq ?_
  generalize ((f0.fdiv 6).fmod 2 == 0) = ow
  refine r_st O10 fun s12 O12 => ?_
  refine wpAny_execs_cons (wpAny_Assign_Name (r_List (spliced_none (r_newList O12 fun ta s13 O13 => ?_))))
  refine r_stC (c := L + 3) O13 (fun s14 O14 => ?_) (by repeat (first | exact Pick.here | apply Pick.there | apply Pick.right))
  have O15 := O14.to (qs := (L, IsNs (upd (fun _ => none) "oneway" (.bool ow))) :: (L + 4, IsC none) :: (L + 3, IsC (some (.ref ta))) :: (L + 2, IsC (some (.int nn t10))) :: (L + 1, IsC (some (.ref fa))) :: (ta, IsL []) :: (fa, IsI [f0, f1, f2, f3, f4, f5, f6]) :: ps)
  clear O14 O13 O12 O10 O9 O8 O7 O6 O5 O4 O11
  refine wpAny_execs_cons (wpAny_For (wpAny_Call_NameR (r_bltn X O15 ?_ (v := .type "range") (hv := by kernel_rfl))))
  refine PyProof.Rows.callWith_type1 (spliced_more (r_cell (c := L + 2) O15 (spliced_none ?_) (by repeat (first | exact Pick.here | apply Pick.there | apply Pick.right))))
  refine r_range O15 fun ra s16 O16 => ?_
  refine r_iterRange O16 .here (by omega) fun I s17 O17 => ?_
  have hP : ∀ i, i < nn → (rangeI nn)[i]? = some (Int.ofNat i) := fun i hi => rangeI_at hi
  refine codeAny_forLoop (fun q s => ∃ (i : Nat) (rt : Int → Addr) (m : Str → Option Value) (o : Option Value), q = nn - i ∧ i ≤ nn ∧ m "oneway" = some (.bool ow) ∧ Own σ ((I, IsRI i ((nn : Int) - i) 1) :: (L, IsNs m) :: (L + 4, IsC o) :: (L + 3, IsC (some (.ref ta))) :: (L + 2, IsC (some (.int nn t10))) :: (L + 1, IsC (some (.ref fa))) ::
    (ta, IsL (((rangeI nn).take i).map fun u => .ref (rt u))) :: (fam (fun u => IsI ((rangeI nn).map (ent0 f1 f2 nn u))) rt ((rangeI nn).take i) ++ ((fa, IsI [f0, f1, f2, f3, f4, f5, f6]) :: ps))) s) ?_ _ ⟨0, fun _ => 0, _, none, rfl, Nat.zero_le _, upd_same _ _ _, O17.to⟩
  rintro q s18 ⟨i, rt, m, o, rfl, hi, hm, O18⟩
  rcases Nat.lt_or_ge i nn with hlt | hge
  · refine iterRg.next trivial O18 (hP i hlt) fun t19 s19 O19 => ?_
    refine wpAny_assign_Name (r_stC (c := L + 4) O19 (fun s20 O20 => ?_) (by repeat (first | exact Pick.here | apply Pick.there | apply Pick.right)))
    refine wpAny_execs_cons (wpAny_Expr_any (methodCall_KW (r_cell (c := L + 3) O20 ?_ (by repeat (first | exact Pick.here | apply Pick.there | apply Pick.right)))))
    refine r_methAppendL O20 ?_ (l := ta) (by repeat (first | exact Pick.here | apply Pick.there | apply Pick.right))
    refine callWith_method1 (spliced_more (r_comp (σ := σ) (cl := [("u", L + 4), ("n", L + 2), ("found", L + 1)]) (by rfl) (by decide) (by rfl) (by decide) ?_))
    refine wpAny_Call_NameR (r_bltn X O20 ?_ (v := .type "range") (hv := by kernel_rfl))
    refine PyProof.Rows.callWith_type1 (spliced_more (r_cell (c := L + 2) O20 (spliced_none ?_) (by repeat (first | exact Pick.here | apply Pick.there | apply Pick.right))))
    refine r_range O20 fun ra2 s21 O21 => ?_
    refine r_iterRange O21 .here (by omega) fun I2 s22 O22 => ?_
    refine ⟨I2, _, _, rfl, O22, fun O' q => (iterRg (n := nn)).self (i := 0) O' q, fun acc C s23 O23 => ?_⟩
    have O24 := O23.to (qs := (C, IsNs fun _ => none) :: (acc, IsL []) :: (I2, IsRI ((0 : Nat) : Int) ((nn : Int) - ((0 : Nat) : Int)) 1) :: (L + 4, IsC (some (.int i t19))) :: (L + 2, IsC (some (.int nn t10))) :: (L + 1, IsC (some (.ref fa))) :: (I, IsRI ((i + 1 : Nat) : Int) ((nn : Int) - ((i + 1 : Nat) : Int)) 1) :: (L, IsNs m) :: (L + 3, IsC (some (.ref ta))) :: (ta, IsL (((rangeI nn).take i).map fun u => .ref (rt u))) :: (fam (fun u => IsI ((rangeI nn).map (ent0 f1 f2 nn u))) rt ((rangeI nn).take i) ++ ((fa, IsI [f0, f1, f2, f3, f4, f5, f6]) :: ps)))
    refine comp_last (xs := rangeI nn) (It := fun i => IsRI i ((nn : Int) - i) 1) (Need := fun _ => True) (i := 0) (outs := []) rfl rfl iterRg hr1.hh rfl rfl rfl (fun _ => True) (fun _ _ _ => trivial) (fun j outs => IntsAre outs (((rangeI nn).map (ent0 f1 f2 nn i)).take j)) (fun j outs hI => by rw [ints_len hI, List.length_take, List.length_map, rangeI_len]; omega)
      (fun _ _ => (L + 4, IsC (some (.int i t19))) :: (L + 2, IsC (some (.int nn t10))) :: (L + 1, IsC (some (.ref fa))) :: (I, IsRI ((i + 1 : Nat) : Int) ((nn : Int) - ((i + 1 : Nat) : Int)) 1) :: (L, IsNs m) :: (L + 3, IsC (some (.ref ta))) :: (ta, IsL (((rangeI nn).take i).map fun u => .ref (rt u))) :: (fam (fun u => IsI ((rangeI nn).map (ent0 f1 f2 nn u))) rt ((rangeI nn).take i) ++ ((fa, IsI [f0, f1, f2, f3, f4, f5, f6]) :: ps))) (fun _ _ _ => trivial) O24 trivial .nil (Nat.zero_le _) (fun j x t m2 outs s25 E5 hx _ hm2 hI O25 => ?_) (fun m2 outs s25 _ hI O25 => ?_)
    · refine wpAny_tests_nil ?_
      rw [if_pos rfl]
      refine wpAny_IfExp (wpAny_isTrue_Compare1 (wpAny_BinOp (wpAny_BinOp (wpAny_BinOp (Subscript_ (r_cell (c := L + 1) O25 (r_int O25 fun t26 s26 O26 => ?_) (.there (.there (.there (.there (.there .here)))))))))))
      refine r_subI O26 (fun t27 s27 O27 => ?_) (by decide) (by decide) (x := f1) rfl (by repeat (first | exact Pick.here | apply Pick.there | apply Pick.right))
      refine wpAny_BinOp (r_int O27 fun t28 s28 O28 => ?_)
      refine wpAny_BinOp (wpAny_BinOp (wpAny_BinOp (r_cell (c := L + 4) O28 ?_ (by repeat (first | exact Pick.here | apply Pick.there | apply Pick.right)))))
      refine r_cell (c := L + 2) O28 ?_ (by repeat (first | exact Pick.here | apply Pick.there | apply Pick.right))
      refine r_mulR O28 (bits_small (by omega)) fun t29 s29 O29 => ?_
      refine r_ld O29 (r_add O29 fun t30 s30 O30 => r_int O30 fun t31 s31 O31 => r_mod O31 (by decide) fun t32 s32 O32 => ?_) (hv := hm2)
      obtain ⟨e1, he1, he1'⟩ := fmod_nat (a := (i : Int) * nn + x) (b := 19) (by decide)
      refine r_pow O32 (by omega) (by omega) (by decide) fun t33 s33 O33 => ?_
      refine r_fdiv O33 ?_ ?_ fun t34 s34 O34 => ?_
      rotate_left 2
      · refine wpAny_BinOp (Subscript_ (r_cell (c := L + 1) O34 (r_int O34 fun t35 s35 O35 => ?_) (by repeat (first | exact Pick.here | apply Pick.there | apply Pick.right))))
        refine r_subI O35 (fun t36 s36 O36 => ?_) (by decide) (by decide) (x := f2) rfl (by repeat (first | exact Pick.here | apply Pick.there | apply Pick.right))
        refine wpAny_BinOp (r_int O36 fun t37 s37 O37 => ?_)
        refine wpAny_BinOp (wpAny_BinOp (wpAny_BinOp (r_cell (c := L + 4) O37 ?_ (by repeat (first | exact Pick.here | apply Pick.there | apply Pick.right)))))
        refine r_cell (c := L + 2) O37 ?_ (by repeat (first | exact Pick.here | apply Pick.there | apply Pick.right))
        refine r_mulR O37 (bits_small (by omega)) fun t38 s38 O38 => ?_
        refine r_ld O38 (r_add O38 fun t39 s39 O39 => r_int O39 fun t40 s40 O40 => r_mod O40 (by decide) fun t41 s41 O41 => ?_) (hv := hm2)
        obtain ⟨e2, he2, he2'⟩ := fmod_nat (a := (i : Int) * nn + x) (b := 17) (by decide)
        refine r_pow O41 (by omega) (by omega) (by decide) fun t42 s42 O42 => ?_
        refine r_fdiv O42 ?_ ?_ fun t43 s43 O43 => ?_
        rotate_left 2
        · refine r_add O43 fun t44 s44 O44 => r_int O44 fun t45 s45 O45 => r_mod O45 (by decide) fun t46 s46 O46 => r_int O46 fun t47 s47 O47 => r_eq (wpAny_truthy_bool ?_)
          have hent : ent0 f1 f2 nn i x = if ((f1.fdiv (2 ^ (((i : Int) * nn + x).fmod 19).toNat) + f2.fdiv (3 ^ (((i : Int) * nn + x).fmod 17).toNat)).fmod 3 == 1) then 1 else 0 := rfl
          have hsn : ∀ t, IntsAre (outs ++ [.int (ent0 f1 f2 nn i x) t]) (((rangeI nn).map (ent0 f1 f2 nn i)).take (j + 1)) := fun t => by
            rw [List.take_add_one, List.getElem?_map, hx]
            exact ints_snoc hI _ t
          cases hc : ((f1.fdiv (2 ^ (((i : Int) * nn + x).fmod 19).toNat) + f2.fdiv (3 ^ (((i : Int) * nn + x).fmod 17).toNat)).fmod 3 == 1) with
          | true =>
            rw [hc] at hent
            rw [hent] at hsn
            exact r_int O47 fun t48 s48 O48 => ⟨hsn t48, O48.to⟩
          | false =>
            rw [hc] at hent
            rw [hent] at hsn
            exact r_int O47 fun t48 s48 O48 => ⟨hsn t48, O48.to⟩
        · rw [he2]; exact (p3_ok e2 (by omega)).1
        · rw [he2]; exact (p3_ok e2 (by omega)).2
      · rw [he1]; exact (p2_ok e1 (by omega)).1
      · rw [he1]; exact (p2_ok e1 (by omega)).2
    · rw [rangeI_len, List.take_of_length_le (by rw [List.length_map, rangeI_len]; exact Nat.le_refl _)] at hI
      refine ⟨rfl, m2, _, O25, fun s26 O26 => spliced_none ?_⟩
      refine r_append (d := ta) O26 (fun s27 O27 => ?_) (by repeat (first | exact Pick.here | apply Pick.there | apply Pick.right)) (by rw [List.length_map, List.length_take, rangeI_len, sizeLine_eq]; omega)
      obtain ⟨ht1, ht2⟩ := take_rangeI hlt
      refine wpAny_execs_nil ⟨nn - (i + 1), by omega, i + 1, up1 rt i acc, m, some (.int i t19), rfl, hlt, hm, ?_⟩
      rw [ht1, fam_new ht2, List.map_append, map_up1 ht2 fun u x => (.ref x : Value)]
      have O28 := (O27.to (qs := (acc, IsL outs) :: (I, IsRI ((i + 1 : Nat) : Int) ((nn : Int) - ((i + 1 : Nat) : Int)) 1) :: (L, IsNs m) :: (L + 4, IsC (some (.int i t19))) :: (L + 3, IsC (some (.ref ta))) :: (L + 2, IsC (some (.int nn t10))) :: (L + 1, IsC (some (.ref fa))) ::
        (ta, IsL (((rangeI nn).take i).map (fun u => .ref (rt u)) ++ [.ref acc])) :: (fam (fun u => IsI ((rangeI nn).map (ent0 f1 f2 nn u))) rt ((rangeI nn).take i) ++ ((fa, IsI [f0, f1, f2, f3, f4, f5, f6]) :: ps)))).closeI hI
      have O29 := Own.tailPerm (front := [(I, IsRI ((i + 1 : Nat) : Int) ((nn : Int) - ((i + 1 : Nat) : Int)) 1), (L, IsNs m), (L + 4, IsC (some (.int i t19))), (L + 3, IsC (some (.ref ta))), (L + 2, IsC (some (.int nn t10))), (L + 1, IsC (some (.ref fa))),
        (ta, IsL (((rangeI nn).take i).map (fun u => .ref (rt u)) ++ [.ref acc]))]) O28 perm_in'
      simpa [up1_same] using O29
  · have hie : i = nn := by omega
    subst hie
    refine iterRg.stop hr1.hh trivial O18 (by rw [rangeI_len]; exact Nat.le_refl _) fun s19 O19 => ?_
    rw [List.take_of_length_le (by rw [rangeI_len]; exact Nat.le_refl _)] at O19
    refine wpAny_execs_nil ?_
    refine wpAny_execs_cons (wpAny_If (wpAny_isTrue_Not (wpAny_isTrue_value (r_ld O19 (wpAny_truthy_bool ?_) (hv := hm)))))
    have h01 : ∀ u v, ent0 f1 f2 i u v = 0 ∨ ent0 f1 f2 i u v = 1 := fun u v => by unfold ent0; split <;> simp
    cases ow with
    | true =>
      refine wpAny_execs_nil ?_
      refine wpAny_execs_cons (wpAny_Return_some (r_Tuple (spliced_more (r_cell (c := L + 2) O19 (spliced_more (r_ld O19 (spliced_more (r_cell (c := L + 3) O19 (spliced_none ?_) (by repeat (first | exact Pick.here | apply Pick.there | apply Pick.right)))) (hv := hm))) (by repeat (first | exact Pick.here | apply Pick.there | apply Pick.right))))))
      refine r_newTuple O19 fun tp s20 O20 => ?_
      exact h tp ta rt i true (ent0 f1 f2 i) t10 s20 hn1 hn6 h01 (fun e => nomatch e) O20.to
    | false =>
      refine wpAny_execs_cons (wpAny_Assign_Name (r_compC (σ := σ) (cx := "u") (cl := [("table", L + 3), ("n", L + 2)]) (by rfl) (fun _ => rfl) (fun _ => rfl) (by rfl) (by decide) ?_))
      refine wpAny_Call_NameR (r_bltn X O19 ?_ (v := .type "range") (hv := by kernel_rfl))
      refine PyProof.Rows.callWith_type1 (spliced_more (r_cell (c := L + 2) O19 (spliced_none ?_) (by repeat (first | exact Pick.here | apply Pick.there | apply Pick.right))))
      refine r_range O19 fun ra2 s21 O21 => ?_
      refine r_iterRange O21 .here (by omega) fun I2 s22 O22 => ?_
      refine ⟨I2, _, _, rfl, O22, fun O' q => (iterRg (n := i)).self (i := 0) O' q, fun acc C Ca s23 O23 => ?_⟩
      have O24 := O23.to (qs := (C, IsNs fun _ => none) :: (Ca, IsC none) :: (acc, IsL []) :: (I2, IsRI ((0 : Nat) : Int) ((i : Int) - ((0 : Nat) : Int)) 1) :: (L, IsNs m) :: (L + 3, IsC (some (.ref ta))) :: (L + 2, IsC (some (.int i t10))) :: (ta, IsL (tabL rt i)) :: (fam (fun u => IsI ((rangeI i).map (ent0 f1 f2 i u))) rt (rangeI i) ++ ((fa, IsI [f0, f1, f2, f3, f4, f5, f6]) :: ps)))
      refine comp_lastC (xs := rangeI i) (It := fun j => IsRI j ((i : Int) - j) 1) (Need := fun _ => True) (i := 0) (outs := []) rfl rfl iterRg hr1.hh rfl rfl rfl rfl (fun j outs => outs.length = j ∧ j ≤ i ∧ ∀ v ∈ outs, ∃ a, v = .ref a) (fun j outs hI => by omega)
        (fun j outs => zfam (fun u => IsI ((rangeI i).map ((fun u v => max (ent0 f1 f2 i u v) (ent0 f1 f2 i v u)) u))) ((rangeI i).take j) outs ++ ((L, IsNs m) :: (L + 3, IsC (some (.ref ta))) :: (L + 2, IsC (some (.int i t10))) :: (ta, IsL (tabL rt i)) :: (fam (fun u => IsI ((rangeI i).map (ent0 f1 f2 i u))) rt (rangeI i) ++ ((fa, IsI [f0, f1, f2, f3, f4, f5, f6]) :: ps)))) (fun _ _ _ _ => trivial) O24 ⟨rfl, Nat.zero_le _, fun _ h => nomatch h⟩ (Nat.zero_le _) (fun j x t m2 outs s25 E5 hx hI O25 => ?_) (fun m2 o2 outs s25 hI O25 => ?_)
      · refine wpAny_tests_nil ?_
        rw [if_pos rfl]
        obtain ⟨hI1, hI2, hI3⟩ := hI
        obtain ⟨hxj, hji⟩ := rangeI_get hx
        refine r_comp (σ := σ) (cl := [("u", Ca), ("table", L + 3)]) (by rfl) (by decide) (by rfl) (by decide) ?_
        refine wpAny_Call_NameR (r_bltn X O25 ?_ (v := .type "range") (hv := by kernel_rfl))
        refine PyProof.Rows.callWith_type1 (spliced_more (r_cell (c := L + 2) O25 (spliced_none ?_) (by repeat (first | exact Pick.here | apply Pick.there | apply Pick.right))))
        refine r_range O25 fun ra3 s26 O26 => ?_
        refine r_iterRange O26 .here (by omega) fun I3 s27 O27 => ?_
        refine ⟨I3, _, _, rfl, O27, fun O' q => (iterRg (n := i)).self (i := 0) O' q, fun acc3 C3 s28 O28 => ?_⟩
        have O29 := O28.to (qs := (C3, IsNs fun _ => none) :: (acc3, IsL []) :: (I3, IsRI ((0 : Nat) : Int) ((i : Int) - ((0 : Nat) : Int)) 1) :: (C, IsNs m2) :: (Ca, IsC (some (.int x t))) :: (acc, IsL outs) :: (I2, IsRI ((j + 1 : Nat) : Int) ((i : Int) - ((j + 1 : Nat) : Int)) 1) :: (zfam (fun u => IsI ((rangeI i).map ((fun u v => max (ent0 f1 f2 i u v) (ent0 f1 f2 i v u)) u))) ((rangeI i).take j) outs ++ ((L, IsNs m) :: (L + 3, IsC (some (.ref ta))) :: (L + 2, IsC (some (.int i t10))) :: (ta, IsL (tabL rt i)) :: (fam (fun u => IsI ((rangeI i).map (ent0 f1 f2 i u))) rt (rangeI i) ++ ((fa, IsI [f0, f1, f2, f3, f4, f5, f6]) :: ps)))))
        refine comp_last (xs := rangeI i) (It := fun j => IsRI j ((i : Int) - j) 1) (Need := fun _ => True) (i := 0) (outs := []) rfl rfl iterRg hr1.hh rfl rfl rfl (fun _ => True) (fun _ _ _ => trivial) (fun j' outs => IntsAre outs (((rangeI i).map ((fun u v => max (ent0 f1 f2 i u v) (ent0 f1 f2 i v u)) x)).take j')) (fun j outs hI => by rw [ints_len hI, List.length_take, List.length_map, rangeI_len]; omega)
          (fun _ _ => (C, IsNs m2) :: (Ca, IsC (some (.int x t))) :: (acc, IsL outs) :: (I2, IsRI ((j + 1 : Nat) : Int) ((i : Int) - ((j + 1 : Nat) : Int)) 1) :: (zfam (fun u => IsI ((rangeI i).map ((fun u v => max (ent0 f1 f2 i u v) (ent0 f1 f2 i v u)) u))) ((rangeI i).take j) outs ++ ((L, IsNs m) :: (L + 3, IsC (some (.ref ta))) :: (L + 2, IsC (some (.int i t10))) :: (ta, IsL (tabL rt i)) :: (fam (fun u => IsI ((rangeI i).map (ent0 f1 f2 i u))) rt (rangeI i) ++ ((fa, IsI [f0, f1, f2, f3, f4, f5, f6]) :: ps))))) (fun _ _ _ => trivial) O29 trivial .nil (Nat.zero_le _) (fun j' y t' m3 outs3 s30 E6 hy _ hm3 hI' O30 => ?_) (fun m3 outs3 s30 _ hI' O30 => ?_)
        · refine wpAny_tests_nil ?_
          rw [if_pos rfl]
          obtain ⟨hyj, hjy⟩ := rangeI_get hy
          have hxm : x ∈ rangeI i := List.mem_of_getElem? hx
          have hym : y ∈ rangeI i := List.mem_of_getElem? hy
          obtain ⟨hx0, hxi⟩ := mem_rangeI.mp hxm
          obtain ⟨hy0, hyi⟩ := mem_rangeI.mp hym
          have gx : (rangeI i)[x.toNat]? = some x := by
            have e : x.toNat = j := by rw [hxj]; rfl
            rw [e]; exact hx
          have gy : (rangeI i)[y.toNat]? = some y := by
            have e : y.toNat = j' := by rw [hyj]; rfl
            rw [e]; exact hy
          refine wpAny_Call_NameR (r_bltn X O30 ?_ (v := .builtin "max") (hv := by kernel_rfl))
          refine PyProof.Rows.callWith_builtin1 ?_
          refine spliced_more ?_
          refine Subscript_ (Subscript_ ?_)
          refine r_cell (c := L + 3) O30 ?_ (.there (.there (.there (.there (.there (.there (.there (.right (.there .here)))))))))
          refine r_cell (c := Ca) O30 ?_ (.there (.there (.there (.there .here))))
          refine r_subL (l := ta) (v := .ref (rt x)) O30 ?_ hx0 (by omega) (by rw [List.getElem?_map, gx]; rfl) (by repeat (first | exact Pick.here | apply Pick.there | apply Pick.right))
          obtain ⟨q1, hq1⟩ := pick_famR (P := fun u => IsI ((rangeI i).map (ent0 f1 f2 i u))) (ra := rt) hxm
          obtain ⟨q2, hq2⟩ := pick_famR (P := fun u => IsI ((rangeI i).map (ent0 f1 f2 i u))) (ra := rt) hym
          refine r_ld O30 ?_ (hv := hm3)
          refine r_subI (l := rt x) (x := ent0 f1 f2 i x y) O30 (fun t31 s31 O31 => ?_) hy0 (by omega) (by rw [List.getElem?_map, gy]; rfl) (.there (.there (.there (.there (.there (.there (.there (.right (.there (.there (.there (.there (.left hq1)))))))))))))
          refine spliced_more (Subscript_ (Subscript_ (r_cell (c := L + 3) O31 (r_ld O31 ?_ (hv := hm3)) (by repeat (first | exact Pick.here | apply Pick.there | apply Pick.right)))))
          refine r_subL (l := ta) (v := .ref (rt y)) O31 ?_ hy0 (by omega) (by rw [List.getElem?_map, gy]; rfl) (by repeat (first | exact Pick.here | apply Pick.there | apply Pick.right))
          refine r_cell (c := Ca) O31 ?_ (by repeat (first | exact Pick.here | apply Pick.there | apply Pick.right))
          refine r_subI (l := rt y) (x := ent0 f1 f2 i y x) O31 (fun t32 s32 O32 => ?_) hx0 (by omega) (by rw [List.getElem?_map, gx]; rfl) (.there (.there (.there (.there (.there (.there (.there (.right (.there (.there (.there (.there (.left hq2)))))))))))))
          refine spliced_none (r_max O32 hr1.hh fun t33 s33 O33 => ⟨?_, O33.to⟩)
          rw [List.take_add_one, List.getElem?_map, hy]
          exact ints_snoc hI' _ _
        · rw [rangeI_len, List.take_of_length_le (by rw [List.length_map, rangeI_len]; exact Nat.le_refl _)] at hI'
          refine ⟨rfl, m3, _, O30, fun s31 O31 => ?_⟩
          obtain ⟨ht1, ht2⟩ := take_rangeI hji
          refine ⟨⟨by simp [hI1], hji, fun v hv => ?_⟩, ?_⟩
          · rcases List.mem_append.mp hv with q | q
            · exact hI3 v q
            · rw [List.mem_singleton] at q; exact ⟨acc3, q⟩
          · rw [ht1, zfam_snoc (by rw [List.length_take, rangeI_len]; omega)]
            subst hxj
            have O32 := (O31.closeI hI').to (qs := (acc3, IsI ((rangeI i).map ((fun u v => max (ent0 f1 f2 i u v) (ent0 f1 f2 i v u)) (Int.ofNat j)))) :: (C, IsNs m2) :: (Ca, IsC (some (.int (Int.ofNat j) t))) :: (acc, IsL outs) :: (I2, IsRI ((j + 1 : Nat) : Int) ((i : Int) - ((j + 1 : Nat) : Int)) 1) :: (zfam (fun u => IsI ((rangeI i).map ((fun u v => max (ent0 f1 f2 i u v) (ent0 f1 f2 i v u)) u))) ((rangeI i).take j) outs ++ ((L, IsNs m) :: (L + 3, IsC (some (.ref ta))) :: (L + 2, IsC (some (.int i t10))) :: (ta, IsL (tabL rt i)) :: (fam (fun u => IsI ((rangeI i).map (ent0 f1 f2 i u))) rt (rangeI i) ++ ((fa, IsI [f0, f1, f2, f3, f4, f5, f6]) :: ps)))))
            exact Own.tailPerm (front := [(C, IsNs m2), (Ca, IsC (some (.int (Int.ofNat j) t))), (acc, IsL outs), (I2, IsRI ((j + 1 : Nat) : Int) ((i : Int) - ((j + 1 : Nat) : Int)) 1)]) O32 perm_in'
      · rw [rangeI_len] at hI O25
        obtain ⟨hI1, hI2, hI3⟩ := hI
        rw [List.take_of_length_le (by rw [rangeI_len]; exact Nat.le_refl _)] at O25
        obtain ⟨rt2, hz1, hz2⟩ := zfam_fam (P := fun u => IsI ((rangeI i).map ((fun u v => max (ent0 f1 f2 i u v) (ent0 f1 f2 i v u)) u))) hI1 hI3
        rw [hz1] at O25
        have O26 : Own σ ((C, IsNs m2) :: (Ca, IsC o2) :: (acc, IsL (tabL rt2 i)) :: (fam (fun u => IsI ((rangeI i).map ((fun u v => max (ent0 f1 f2 i u v) (ent0 f1 f2 i v u)) u))) rt2 (rangeI i) ++ ((L, IsNs m) :: (L + 3, IsC (some (.ref ta))) :: (L + 2, IsC (some (.int i t10))) :: (ta, IsL (tabL rt i)) :: (fam (fun u => IsI ((rangeI i).map (ent0 f1 f2 i u))) rt (rangeI i) ++ ((fa, IsI [f0, f1, f2, f3, f4, f5, f6]) :: ps))))) s25 := by rw [hz2] at O25; exact O25
        refine ⟨rfl, m2, _, O26, fun s27 O27 => ?_⟩
        refine r_stC (c := L + 3) O27 (fun s28 O28 => ?_) (by repeat (first | exact Pick.here | apply Pick.there | apply Pick.right))
        refine wpAny_execs_nil ?_
        refine wpAny_execs_cons (wpAny_Return_some (r_Tuple (spliced_more (r_cell (c := L + 2) O28 (spliced_more (r_ld O28 (spliced_more (r_cell (c := L + 3) O28 (spliced_none ?_) (by repeat (first | exact Pick.here | apply Pick.there | apply Pick.right)))) (hv := hm))) (by repeat (first | exact Pick.here | apply Pick.there | apply Pick.right))))))
        refine r_newTuple O28 fun tp s29 O29 => ?_
        refine h tp acc rt2 i false (fun u v => max (ent0 f1 f2 i u v) (ent0 f1 f2 i v u)) t10 s29 hn1 hn6 (fun u v => ?_) (fun _ u v => Int.max_comm _ _) ?_
        · rcases h01 u v with e1 | e1 <;> rcases h01 v u with e2 | e2 <;> simp only [e1, e2] <;> decide
        · have O30 := O29.to (qs := (tp, IsT [.int i t10, .bool false, .ref acc]) :: (acc, IsL (tabL rt2 i)) :: (fam (fun u => IsI ((rangeI i).map ((fun u v => max (ent0 f1 f2 i u v) (ent0 f1 f2 i v u)) u))) rt2 (rangeI i) ++ ((L, IsNs m) :: (L + 2, IsC (some (.int i t10))) :: (ta, IsL (tabL rt i)) :: (fam (fun u => IsI ((rangeI i).map (ent0 f1 f2 i u))) rt (rangeI i) ++ ((fa, IsI [f0, f1, f2, f3, f4, f5, f6]) :: ps)))))
          have O31 := Own.dropMid' (F := (tp, IsT [.int i t10, .bool false, .ref acc]) :: (acc, IsL (tabL rt2 i)) :: fam (fun u => IsI ((rangeI i).map ((fun u v => max (ent0 f1 f2 i u v) (ent0 f1 f2 i v u)) u))) rt2 (rangeI i)) (M := (L, IsNs m) :: (L + 2, IsC (some (.int i t10))) :: (ta, IsL (tabL rt i)) :: fam (fun u => IsI ((rangeI i).map (ent0 f1 f2 i u))) rt (rangeI i)) O30
          exact O31
end
end Mine
end

-- Gm
section
open PySem PySem.W PyProof.Rows PySem.Calls
set_option Elab.async false
set_option maxRecDepth 100000
set_option maxHeartbeats 1000000
set_option linter.unusedVariables false
namespace Mine
section
variable {prog : Program} {w : World} {A : Around} {E : Value → Shared → Prop} {σ s : Shared} {env : Env} {ps r r' r'' : List HP} {K : Frag} {mg mb m : Str → Option Value} {R : Result → Shared → Prop} {n : Nat}
theorem kw_defaults {fd : FuncData} {args : Args} {T : Addr} {o : Obj} {items : Array Value} {n : Nat} {pre : List (Str × Value)} {kn : Str} {k : Option (Array Value) → Sem (List (Str × Value))} (X : K.In s.heap) (hd : fd.defaults = .ref T) (ho : K.lookup T = some o) (hs : o.data = .seq items n)
    (h₁ : bindArgs fd args = seqItems? fd.defaults >>= k) (h₂ : k (some items) = (do let d ← alloc { cls := .type "dict", data := .dict #[] }; pure (pre ++ [(kn, Value.ref d)]))) :
    ∀ (M : Model) (A : Around) (E : Value → Shared → Prop) (Q : List (Str × Value) → Shared → Prop), wpAny M A (do let d ← alloc { cls := .type "dict", data := .dict #[] }; pure (pre ++ [(kn, Value.ref d)])) Q E s → wpAny M A (bindArgs fd args) Q E s := fun M A E Q h => by
  rw [h₁, hd]
  exact wpAny_bind (wpAny_seqItems (X _ _ ho) hs (by rw [h₂]; exact h))

theorem make_un (X : PF (KF w) σ mg mb) (O : Own σ ps s) (hr : Room A (n + 3))
    (h : ∀ g gd gg nd od s', Own σ ((g, IsO (plainObj 638 (some gd) #[])) :: (gd, IsS prog w [("graph", .ref gg), ("_node", .ref nd), ("_adj", .ref od)]) :: (nd, IsD prog w []) :: (od, IsD prog w []) :: ps) s' → R (.ok (.ret (.ref g))) s') :
    codeAny (model prog w) A (.call (.ref 638) ⟨[], []⟩) R s := by
  refine c_make X O hr fun x dx s1 O1 hr1 => ?_
  refine c_defKw X O1 hr1 rfl rfl (pre := [("self", .ref x), ("incoming_graph_data", .none)]) (kn := "attr") (kw_defaults (O1.inK X) rfl rfl rfl rfl rfl) fun d L s2 E' O2 hr2 => ?_
  refine wpAny_execs_cons (plainObj_wpAny_Assign_Attribute (methodCall_KW (r_ld O2 ?_ (hv := rfl))))
  refine r_methV X O2 (fun s3 O3 => ?_) (.there (.there .here)) (.there (.there (.there .here))) rfl
  refine callWith_type0 (r_dict0 O3 fun gg s4 O4 => ?_)
  refine r_ld O4 ?_ (hv := rfl)
  refine r_setAttr (hz := Nat.le_of_ble_eq_true rfl) X (O4.to (qs := (x, IsO (plainObj 638 (some dx) #[])) :: (dx, IsS prog w []) :: (L, IsNs _) :: (d, IsD prog w []) :: (gg, IsD prog w []) :: ps)) fun s5 O5 => ?_
  refine wpAny_execs_cons (plainObj_wpAny_Assign_Attribute (methodCall_KW (r_ld O5 ?_ (hv := rfl))))
  refine r_methV X O5 (fun s6 O6 => ?_) .here (.there .here) rfl
  refine callWith_type0 (r_dict0 O6 fun nd s7 O7 => ?_)
  refine r_ld O7 ?_ (hv := rfl)
  refine r_setAttr (hz := Nat.le_of_ble_eq_true rfl) X (O7.to (qs := (x, IsO (plainObj 638 (some dx) #[])) :: (dx, IsS prog w _) :: (L, IsNs _) :: (d, IsD prog w []) :: (gg, IsD prog w []) :: (nd, IsD prog w []) :: ps)) fun s8 O8 => ?_
  refine wpAny_execs_cons (plainObj_wpAny_Assign_Attribute (methodCall_KW (r_ld O8 ?_ (hv := rfl))))
  refine r_methV X O8 (fun s9 O9 => ?_) .here (.there .here) rfl
  refine callWith_type0 (r_dict0 O9 fun ad s10 O10 => ?_)
  refine r_ld O10 ?_ (hv := rfl)
  refine r_setAttr (hz := Nat.le_of_ble_eq_true rfl) X (O10.to (qs := (x, IsO (plainObj 638 (some dx) #[])) :: (dx, IsS prog w _) :: (L, IsNs _) :: (d, IsD prog w []) :: (gg, IsD prog w []) :: (nd, IsD prog w []) :: (ad, IsD prog w []) :: ps)) fun s11 O11 => ?_
  refine wpAny_execs_cons (wpAny_If (wpAny_isTrue_Compare1 (r_ld O11 (r_none ?_) (hv := rfl))))
  refine wpAny_isNot_self rfl (wpAny_truthy_bool (wpAny_execs_nil ?_))
  refine wpAny_execs_cons (wpAny_Expr_any (methodCall_KW (Attribute_any_ (r_ld O11 ?_ (hv := rfl)))))
  refine r_attr X O11 (fun s12 O12 => ?_) (hg := .here) (hd := .there .here) (hv := rfl)
  refine r_methUpdate O12 ?_ (.there (.there (.there (.there .here))))
  refine callWith_method1 (spliced_more (r_ld O12 (spliced_none ?_) (hv := rfl)))
  refine r_updE X O12 (fun s13 O13 => ?_) (.there (.there (.there (.there .here)))) (.there (.there (.there .here))) (by rw [sizeLine_eq]; simp)
  refine wpAny_execs_nil ⟨rfl, h x dx gg nd ad s13 O13.to⟩
theorem make_di (X : PF (KF w) σ mg mb) (O : Own σ ps s) (hr : Room A (n + 3))
    (h : ∀ g gd gg nd od pd s', Own σ ((g, IsO (plainObj 814 (some gd) #[])) :: (gd, IsS prog w [("graph", .ref gg), ("_node", .ref nd), ("_adj", .ref od), ("_pred", .ref pd), ("_succ", .ref od)]) :: (nd, IsD prog w []) :: (od, IsD prog w []) :: (pd, IsD prog w []) :: ps) s' → R (.ok (.ret (.ref g))) s') :
    codeAny (model prog w) A (.call (.ref 814) ⟨[], []⟩) R s := by
  refine c_make X O hr fun x dx s1 O1 hr1 => ?_
  refine c_defKw X O1 hr1 rfl rfl (pre := [("self", .ref x), ("incoming_graph_data", .none)]) (kn := "attr") (kw_defaults (O1.inK X) rfl rfl rfl rfl rfl) fun d L s2 E' O2 hr2 => ?_
  refine wpAny_execs_cons (plainObj_wpAny_Assign_Attribute (methodCall_KW (r_ld O2 ?_ (hv := rfl))))
  refine r_methV X O2 (fun s3 O3 => ?_) (.there (.there .here)) (.there (.there (.there .here))) rfl
  refine callWith_type0 (r_dict0 O3 fun gg s4 O4 => ?_)
  refine r_ld O4 ?_ (hv := rfl)
  refine r_setAttr (hz := Nat.le_of_ble_eq_true rfl) X (O4.to (qs := (x, IsO (plainObj 814 (some dx) #[])) :: (dx, IsS prog w []) :: (L, IsNs _) :: (d, IsD prog w []) :: (gg, IsD prog w []) :: ps)) fun s5 O5 => ?_
  refine wpAny_execs_cons (plainObj_wpAny_Assign_Attribute (methodCall_KW (r_ld O5 ?_ (hv := rfl))))
  refine r_methV X O5 (fun s6 O6 => ?_) .here (.there .here) rfl
  refine callWith_type0 (r_dict0 O6 fun nd s7 O7 => ?_)
  refine r_ld O7 ?_ (hv := rfl)
  refine r_setAttr (hz := Nat.le_of_ble_eq_true rfl) X (O7.to (qs := (x, IsO (plainObj 814 (some dx) #[])) :: (dx, IsS prog w _) :: (L, IsNs _) :: (d, IsD prog w []) :: (gg, IsD prog w []) :: (nd, IsD prog w []) :: ps)) fun s8 O8 => ?_
  refine wpAny_execs_cons (plainObj_wpAny_Assign_Attribute (methodCall_KW (r_ld O8 ?_ (hv := rfl))))
  refine r_methV X O8 (fun s9 O9 => ?_) .here (.there .here) rfl
  refine callWith_type0 (r_dict0 O9 fun ad s10 O10 => ?_)
  refine r_ld O10 ?_ (hv := rfl)
  refine r_setAttr (hz := Nat.le_of_ble_eq_true rfl) X (O10.to (qs := (x, IsO (plainObj 814 (some dx) #[])) :: (dx, IsS prog w _) :: (L, IsNs _) :: (d, IsD prog w []) :: (gg, IsD prog w []) :: (nd, IsD prog w []) :: (ad, IsD prog w []) :: ps)) fun s11 O11 => ?_
  refine wpAny_execs_cons (plainObj_wpAny_Assign_Attribute (methodCall_KW (r_ld O11 ?_ (hv := rfl))))
  refine r_methV X O11 (fun s9 O9 => ?_) .here (.there .here) rfl
  refine callWith_type0 (r_dict0 O9 fun pd s10 O10 => ?_)
  refine r_ld O10 ?_ (hv := rfl)
  refine r_setAttr (hz := Nat.le_of_ble_eq_true rfl) X (O10.to (qs := (x, IsO (plainObj 814 (some dx) #[])) :: (dx, IsS prog w _) :: (L, IsNs _) :: (d, IsD prog w []) :: (gg, IsD prog w []) :: (nd, IsD prog w []) :: (ad, IsD prog w []) :: (pd, IsD prog w []) :: ps)) fun s11 O11 => ?_
  refine wpAny_execs_cons (plainObj_wpAny_Assign_Attribute (Attribute_any_ (r_ld O11 ?_ (hv := rfl))))
  refine r_attr X O11 (fun s12 O12 => ?_) (hg := .here) (hd := .there .here) (hv := rfl)
  refine r_ld O12 ?_ (hv := rfl)
  refine r_setAttr (hz := Nat.le_of_ble_eq_true rfl) X O12 fun s13 O11 => ?_
  refine wpAny_execs_cons (wpAny_If (wpAny_isTrue_Compare1 (r_ld O11 (r_none ?_) (hv := rfl))))
  refine wpAny_isNot_self rfl (wpAny_truthy_bool (wpAny_execs_nil ?_))
  refine wpAny_execs_cons (wpAny_Expr_any (methodCall_KW (Attribute_any_ (r_ld O11 ?_ (hv := rfl)))))
  refine r_attr X O11 (fun s12 O12 => ?_) (hg := .here) (hd := .there .here) (hv := rfl)
  refine r_methUpdate O12 ?_ (.there (.there (.there (.there .here))))
  refine callWith_method1 (spliced_more (r_ld O12 (spliced_none ?_) (hv := rfl)))
  refine r_updE X O12 (fun s13 O13 => ?_) (.there (.there (.there (.there .here)))) (.there (.there (.there .here))) (by rw [sizeLine_eq]; simp)
  refine wpAny_execs_nil ⟨rfl, h x dx gg nd ad pd s13 O13.to⟩
end
end Mine
end

-- Gn
section
open PySem PySem.W PyProof.Rows PySem.Calls
set_option Elab.async false
set_option maxRecDepth 100000
set_option maxHeartbeats 1000000
set_option linter.unusedVariables false
namespace Mine
/-- a dict whose keys are those -/
def IsDK (prog : Program) (w : World) (N : List Int) (o : Obj) : Prop := ∃ f : Int → Addr, IsD prog w (N.map fun u => (u, .ref (f u))) o
abbrev kvsU (gg nd od : Addr) : List (Str × Value) := [("graph", .ref gg), ("_node", .ref nd), ("_adj", .ref od)]
abbrev kvsD (gg nd od pd : Addr) : List (Str × Value) := [("graph", .ref gg), ("_node", .ref nd), ("_adj", .ref od), ("_pred", .ref pd), ("_succ", .ref od)]
section
variable {prog : Program} {w : World} {A : Around} {E : Value → Shared → Prop} {σ s : Shared} {env : Env} {ps r r' r'' : List HP} {K : Frag} {mg mb m : Str → Option Value} {R : Result → Shared → Prop} {n : Nat} {g gd gg nd od la pd d : Addr} {N : List Int}
theorem Own.openDK (O : Own σ ps s) (hp : Pick d (IsDK prog w N) ps r) : ∃ f : Int → Addr, Own σ ((d, IsD prog w (N.map fun u => (u, .ref (f u)))) :: r) s := by
  obtain ⟨o, ⟨f, h⟩, O'⟩ := (O.front hp).freeze
  exact ⟨f, O'.imp fun x hx => hx ▸ h⟩

theorem not_mem_take {N : List Int} (hn : N.Nodup) {i : Nat} (hlt : i < N.length) : N[i] ∉ N.take i := fun hm => by
  have e : N = N.take i ++ N[i] :: N.drop (i + 1) := by rw [← List.drop_eq_getElem_cons hlt, List.take_append_drop]
  rw [e] at hn
  exact (List.nodup_append.mp hn).2.2 _ hm _ (.head _) rfl
theorem perm_in {a : HP} {F T : List HP} : (a :: (F ++ T)).Perm ((F ++ [a]) ++ T) := by rw [List.append_assoc]; exact List.perm_middle.symm

theorem add_nodes_un (X : PF (KF w) σ mg mb) (O : Own σ ((g, IsO (plainObj 638 (some gd) #[])) :: (gd, IsS prog w (kvsU gg nd od)) :: (nd, IsD prog w []) :: (od, IsD prog w []) :: (la, IsI N) :: ps) s) (hn : N.Nodup) (hz : N.length ≤ 1000) (hr : Room A (n + 2))
    (h : ∀ ra s', Own σ ((g, IsO (plainObj 638 (some gd) #[])) :: (gd, IsS prog w (kvsU gg nd od)) :: (nd, IsDK prog w N) :: (od, IsD prog w (N.map fun u => (u, .ref (ra u)))) :: (la, IsI N) :: (fam (fun _ => IsD prog w []) ra N ++ ps)) s' → R (.ok (.ret .none)) s') :
    codeAny (model prog w) A (.call (.ref 495) ⟨[.ref g, .ref la], []⟩) R s := by
  refine c_defKw X O hr rfl rfl (pre := [("self", .ref g), ("nodes_for_adding", .ref la)]) (kn := "attr") (fun _ _ _ _ h => h) fun d L s1 E' O1 hr1 => ?_
  refine wpAny_execs_cons (wpAny_For (r_ld O1 ?_ (hv := rfl)))
  refine r_iterI O1 (fun I s2 O2 => ?_) (by repeat (first | exact Pick.here | apply Pick.there | apply Pick.right))
  refine codeAny_forLoop (fun k s => ∃ (i : Nat) (m : Str → Option Value) (ra : Int → Addr), k = N.length - i ∧ i ≤ N.length ∧ m "self" = some (.ref g) ∧ m "attr" = some (.ref d) ∧
    Own σ ((I, IsLI la i) :: (L, IsNs m) :: (d, IsD prog w []) :: (g, IsO (plainObj 638 (some gd) #[])) :: (gd, IsS prog w (kvsU gg nd od)) :: (nd, IsDK prog w (N.take i)) :: (od, IsD prog w ((N.take i).map fun u => (u, .ref (ra u)))) :: (la, IsI N) :: (fam (fun _ => IsD prog w []) ra (N.take i) ++ ps)) s) ?_ _ ⟨0, fun x => (([("self", .ref g), ("nodes_for_adding", .ref la)] : List (Str × Value)) ++ ([("attr", .ref d)] : List (Str × Value))).reverse.lookup x, fun _ => 0, rfl, Nat.zero_le _, rfl, rfl, ?_⟩
  · rintro k s3 ⟨i, m, ra, rfl, hi, hm1, hm2, O3⟩
    rcases Nat.lt_or_ge i N.length with hlt | hge
    · refine r_nextI O3 (List.getElem?_eq_getElem hlt) (fun t s4 O4 => ?_) (by repeat (first | exact Pick.here | apply Pick.there | apply Pick.right))
      refine wpAny_assign_Name (r_st O4 (fun s5 O5 => ?_) (hp := .there .here))
      have hnew := not_mem_take hn hlt
      obtain ⟨f, O6⟩ := O5.openDK (by repeat (first | exact Pick.here | apply Pick.there | apply Pick.right))
      refine wpAny_execs_cons (wpAny_Try_except (wpAny_execs_cons (wpAny_Assign_Name (wpAny_Compare1 (r_ld O6 (Attribute_any_ (r_ld O6 ?_ (hv := upd_other (by decide) hm1))) (hv := upd_same _ _ _))))))
      refine r_attr X O6 (fun s7 O7 => ?_) (hv := rfl)
      refine r_notin X O7 (fun s8 O8 => ?_)
      rw [vAt_isSome (f := fun u => .ref (f u)), decide_eq_false hnew]
      refine r_st O8 fun s9 O9 => ?_
      refine wpAny_execs_cons (wpAny_Assign_Name (r_ld O9 ?_ (hv := upd_other (by decide) (upd_other (by decide) hm2))))
      refine r_st O9 fun s10 O10 => wpAny_execs_nil (wpAny_execs_nil ?_)
      refine wpAny_execs_cons (wpAny_If (wpAny_isTrue_value (r_ld O10 (wpAny_truthy_bool ?_) (hv := upd_other (by decide) (upd_same _ _ _)))))
      refine wpAny_execs_cons (wpAny_If (wpAny_isTrue_Compare1 (r_ld O10 (r_none ?_) (hv := upd_other (by decide) (upd_other (by decide) (upd_same _ _ _))))))
      refine wpAny_is_other rfl (fun e => nomatch e) (wpAny_truthy_bool (wpAny_execs_nil ?_))
      have hself : upd (upd (upd m "n" (.int N[i] t)) "newnode" (.bool !false)) "newdict" (.ref d) "self" = some (.ref g) := upd_other (by decide) (upd_other (by decide) (upd_other (by decide) hm1))
      have hN : upd (upd (upd m "n" (.int N[i] t)) "newnode" (.bool !false)) "newdict" (.ref d) "n" = some (.int N[i] t) := upd_other (by decide) (upd_other (by decide) (upd_same _ _ _))
      refine wpAny_execs_cons (wpAny_Assign_Subscript (methodCall_KW (r_ld O10 ?_ (hv := hself))))
      refine r_methV X O10 (fun s11 O11 => ?_) (by repeat (first | exact Pick.here | apply Pick.there | apply Pick.right)) (by repeat (first | exact Pick.here | apply Pick.there | apply Pick.right)) rfl
      refine callWith_type0 (r_dict0 O11 fun a s12 O12 => ?_)
      refine Attribute_any_ (r_ld O12 ?_ (hv := hself))
      refine r_attr X O12 (fun s13 O13 => ?_) (hv := rfl)
      refine r_ld O13 ?_ (hv := hN)
      refine r_setItem (d := od) O13 (fun s14 O14 => ?_) (hsz := by rw [List.length_map, List.length_take, sizeLine_eq]; omega)
      rw [dict_new hnew] at O14
      refine wpAny_execs_cons (wpAny_Assign_Subscript (methodCall_KW (r_ld O14 ?_ (hv := hself))))
      refine r_methV X O14 (fun s15 O15 => ?_) (by repeat (first | exact Pick.here | apply Pick.there | apply Pick.right)) (by repeat (first | exact Pick.here | apply Pick.there | apply Pick.right)) rfl
      refine callWith_type0 (r_dict0 O15 fun b s16 O16 => ?_)
      refine Attribute_any_ (r_ld O16 ?_ (hv := hself))
      refine r_attr X O16 (fun s17 O17 => ?_) (hv := rfl)
      refine r_ld O17 ?_ (hv := hN)
      refine r_setItem (d := nd) O17 (fun s18 O18 => ?_) (hsz := by rw [List.length_map, List.length_take, sizeLine_eq]; omega)
      rw [dict_new hnew] at O18
      refine wpAny_execs_nil ?_
      refine wpAny_execs_cons (wpAny_Expr_any (methodCall_KW (Subscript_ (Attribute_any_ (r_ld O18 ?_ (hv := hself))))))
      refine r_attr X O18 (fun s19 O19 => ?_) (hv := rfl)
      refine r_ld O19 ?_ (hv := hN)
      refine r_sub O19 (fun s20 O20 => ?_) (vAt_some (f := fun u => .ref (up1 f N[i] b u)) (List.mem_append_right _ (.head _)))
      rw [up1_same]
      have O21 := O20.to (qs := (b, IsD prog w []) :: (d, IsD prog w []) :: (a, IsD prog w []) :: (I, IsLI la (i + 1)) :: (L, IsNs _) :: (g, IsO (plainObj 638 (some gd) #[])) :: (gd, IsS prog w (kvsU gg nd od)) :: (nd, IsD prog w _) :: (od, IsD prog w _) :: (la, IsI N) :: (fam (fun _ => IsD prog w []) ra (N.take i) ++ ps))
      refine r_methUpdate O21 ?_ .here
      refine callWith_method1 (spliced_more (r_ld O21 (spliced_none ?_) (hv := upd_same _ _ _)))
      refine r_updE X O21 (fun s22 O22 => ?_) .here .here (by rw [sizeLine_eq]; simp)
      have hti : N.take (i + 1) = N.take i ++ [N[i]] := by rw [List.take_add_one, List.getElem?_eq_getElem hlt]; rfl
      refine wpAny_execs_nil ⟨N.length - (i + 1), by omega, i + 1, _, up1 ra N[i] a, rfl, hlt, hself, upd_other (by decide) (upd_other (by decide) (upd_other (by decide) hm2)), ?_⟩
      rw [hti, fam_new hnew]
      have O23 := (O22.to (qs := (nd, IsD prog w ((N.take i ++ [N[i]]).map fun u => (u, .ref (up1 f N[i] b u)))) :: (a, IsD prog w []) :: (I, IsLI la (i + 1)) :: (L, IsNs _) :: (d, IsD prog w []) :: (g, IsO (plainObj 638 (some gd) #[])) :: (gd, IsS prog w (kvsU gg nd od)) :: (od, IsD prog w _) :: (la, IsI N) :: (fam (fun _ => IsD prog w []) ra (N.take i) ++ ps))).imp (P' := IsDK prog w (N.take i ++ [N[i]])) fun o ho => ⟨_, ho⟩
      have O24 := O23.to (qs := (a, IsD prog w []) :: (I, IsLI la (i + 1)) :: (L, IsNs _) :: (d, IsD prog w []) :: (g, IsO (plainObj 638 (some gd) #[])) :: (gd, IsS prog w (kvsU gg nd od)) :: (nd, IsDK prog w (N.take i ++ [N[i]])) :: (od, IsD prog w _) :: (la, IsI N) :: (fam (fun _ => IsD prog w []) ra (N.take i) ++ ps))
      exact Own.tailPerm (front := [(I, IsLI la (i + 1)), (L, IsNs _), (d, IsD prog w []), (g, IsO (plainObj 638 (some gd) #[])), (gd, IsS prog w (kvsU gg nd od)), (nd, IsDK prog w (N.take i ++ [N[i]])), (od, IsD prog w _), (la, IsI N)]) O24 perm_in
    · have hi' : i = N.length := by omega
      subst hi'
      rw [List.take_length] at O3
      refine r_endI (xs := N) O3 hr.hh (List.getElem?_eq_none (Nat.le_refl _)) (fun s4 O4 => ?_) (by repeat (first | exact Pick.here | apply Pick.there | apply Pick.right))
      exact wpAny_execs_nil (wpAny_execs_nil (h ra s4 O4.to))
  · have O3 := (O2.to (qs := (nd, IsD prog w []) :: (I, IsLI la 0) :: (L, IsNs _) :: (d, IsD prog w []) :: (g, IsO (plainObj 638 (some gd) #[])) :: (gd, IsS prog w (kvsU gg nd od)) :: (od, IsD prog w []) :: (la, IsI N) :: ps)).imp (P' := IsDK prog w []) fun o ho => ⟨fun _ => 0, ho⟩
    exact O3.to (qs := (I, IsLI la 0) :: (L, IsNs _) :: (d, IsD prog w []) :: (g, IsO (plainObj 638 (some gd) #[])) :: (gd, IsS prog w (kvsU gg nd od)) :: (nd, IsDK prog w []) :: (od, IsD prog w []) :: (la, IsI N) :: ps)
theorem perm_in2 {a : HP} {F G T : List HP} : (a :: (F ++ (G ++ T))).Perm (F ++ ((G ++ [a]) ++ T)) := by
  rw [List.append_assoc]
  exact List.perm_middle.symm.trans (List.perm_middle.symm.append_left F)

theorem add_nodes_di (X : PF (KF w) σ mg mb) (O : Own σ ((g, IsO (plainObj 814 (some gd) #[])) :: (gd, IsS prog w (kvsD gg nd od pd)) :: (nd, IsD prog w []) :: (od, IsD prog w []) :: (pd, IsD prog w []) :: (la, IsI N) :: ps) s) (hn : N.Nodup) (hz : N.length ≤ 1000) (hr : Room A (n + 2))
    (h : ∀ ra pa s', Own σ ((g, IsO (plainObj 814 (some gd) #[])) :: (gd, IsS prog w (kvsD gg nd od pd)) :: (nd, IsDK prog w N) :: (od, IsD prog w (N.map fun u => (u, .ref (ra u)))) :: (pd, IsD prog w (N.map fun u => (u, .ref (pa u)))) :: (la, IsI N) :: (fam (fun _ => IsD prog w []) ra N ++ (fam (fun _ => IsD prog w []) pa N ++ ps))) s' → R (.ok (.ret .none)) s') :
    codeAny (model prog w) A (.call (.ref 705) ⟨[.ref g, .ref la], []⟩) R s := by
  refine c_defKw X O hr rfl rfl (pre := [("self", .ref g), ("nodes_for_adding", .ref la)]) (kn := "attr") (fun _ _ _ _ h => h) fun d L s1 E' O1 hr1 => ?_
  refine wpAny_execs_cons (wpAny_For (r_ld O1 ?_ (hv := rfl)))
  refine r_iterI O1 (fun I s2 O2 => ?_) (by repeat (first | exact Pick.here | apply Pick.there | apply Pick.right))
  refine codeAny_forLoop (fun k s => ∃ (i : Nat) (m : Str → Option Value) (ra pa : Int → Addr), k = N.length - i ∧ i ≤ N.length ∧ m "self" = some (.ref g) ∧ m "attr" = some (.ref d) ∧
    Own σ ((I, IsLI la i) :: (L, IsNs m) :: (d, IsD prog w []) :: (g, IsO (plainObj 814 (some gd) #[])) :: (gd, IsS prog w (kvsD gg nd od pd)) :: (nd, IsDK prog w (N.take i)) :: (od, IsD prog w ((N.take i).map fun u => (u, .ref (ra u)))) :: (pd, IsD prog w ((N.take i).map fun u => (u, .ref (pa u)))) :: (la, IsI N) :: (fam (fun _ => IsD prog w []) ra (N.take i) ++ (fam (fun _ => IsD prog w []) pa (N.take i) ++ ps))) s) ?_ _ ⟨0, fun x => (([("self", .ref g), ("nodes_for_adding", .ref la)] : List (Str × Value)) ++ ([("attr", .ref d)] : List (Str × Value))).reverse.lookup x, fun _ => 0, fun _ => 0, rfl, Nat.zero_le _, rfl, rfl, ?_⟩
  · rintro k s3 ⟨i, m, ra, pa, rfl, hi, hm1, hm2, O3⟩
    rcases Nat.lt_or_ge i N.length with hlt | hge
    · refine r_nextI O3 (List.getElem?_eq_getElem hlt) (fun t s4 O4 => ?_) (by repeat (first | exact Pick.here | apply Pick.there | apply Pick.right))
      refine wpAny_assign_Name (r_st O4 (fun s5 O5 => ?_) (hp := .there .here))
      have hnew := not_mem_take hn hlt
      obtain ⟨f, O6⟩ := O5.openDK (by repeat (first | exact Pick.here | apply Pick.there | apply Pick.right))
      refine wpAny_execs_cons (wpAny_Try_except (wpAny_execs_cons (wpAny_Assign_Name (wpAny_Compare1 (r_ld O6 (Attribute_any_ (r_ld O6 ?_ (hv := upd_other (by decide) hm1))) (hv := upd_same _ _ _))))))
      refine r_attr X O6 (fun s7 O7 => ?_) (hv := rfl)
      refine r_notin X O7 (fun s8 O8 => ?_)
      rw [vAt_isSome (f := fun u => .ref (f u)), decide_eq_false hnew]
      refine r_st O8 fun s9 O9 => ?_
      refine wpAny_execs_cons (wpAny_Assign_Name (r_ld O9 ?_ (hv := upd_other (by decide) (upd_other (by decide) hm2))))
      refine r_st O9 fun s10 O10 => wpAny_execs_nil (wpAny_execs_nil ?_)
      refine wpAny_execs_cons (wpAny_If (wpAny_isTrue_value (r_ld O10 (wpAny_truthy_bool ?_) (hv := upd_other (by decide) (upd_same _ _ _)))))
      refine wpAny_execs_cons (wpAny_If (wpAny_isTrue_Compare1 (r_ld O10 (r_none ?_) (hv := upd_other (by decide) (upd_other (by decide) (upd_same _ _ _))))))
      refine wpAny_is_other rfl (fun e => nomatch e) (wpAny_truthy_bool (wpAny_execs_nil ?_))
      have hself : upd (upd (upd m "n" (.int N[i] t)) "newnode" (.bool !false)) "newdict" (.ref d) "self" = some (.ref g) := upd_other (by decide) (upd_other (by decide) (upd_other (by decide) hm1))
      have hN : upd (upd (upd m "n" (.int N[i] t)) "newnode" (.bool !false)) "newdict" (.ref d) "n" = some (.int N[i] t) := upd_other (by decide) (upd_other (by decide) (upd_same _ _ _))
      refine wpAny_execs_cons (wpAny_Assign_Subscript (methodCall_KW (r_ld O10 ?_ (hv := hself))))
      refine r_methV X O10 (fun s11 O11 => ?_) (by repeat (first | exact Pick.here | apply Pick.there | apply Pick.right)) (by repeat (first | exact Pick.here | apply Pick.there | apply Pick.right)) rfl
      refine callWith_type0 (r_dict0 O11 fun a s12 O12 => ?_)
      refine Attribute_any_ (r_ld O12 ?_ (hv := hself))
      refine r_attr X O12 (fun s13 O13 => ?_) (hv := rfl)
      refine r_ld O13 ?_ (hv := hN)
      refine r_setItem (d := od) O13 (fun s14 O14 => ?_) (hsz := by rw [List.length_map, List.length_take, sizeLine_eq]; omega)
      rw [dict_new hnew] at O14
      refine wpAny_execs_cons (wpAny_Assign_Subscript (methodCall_KW (r_ld O14 ?_ (hv := hself))))
      refine r_methV X O14 (fun s11 O11 => ?_) (by repeat (first | exact Pick.here | apply Pick.there | apply Pick.right)) (by repeat (first | exact Pick.here | apply Pick.there | apply Pick.right)) rfl
      refine callWith_type0 (r_dict0 O11 fun c s12 O12 => ?_)
      refine Attribute_any_ (r_ld O12 ?_ (hv := hself))
      refine r_attr X O12 (fun s13 O13 => ?_) (hv := rfl)
      refine r_ld O13 ?_ (hv := hN)
      refine r_setItem (d := pd) O13 (fun s14 O14 => ?_) (hsz := by rw [List.length_map, List.length_take, sizeLine_eq]; omega)
      rw [dict_new hnew] at O14
      refine wpAny_execs_cons (wpAny_Assign_Subscript (methodCall_KW (r_ld O14 ?_ (hv := hself))))
      refine r_methV X O14 (fun s15 O15 => ?_) (by repeat (first | exact Pick.here | apply Pick.there | apply Pick.right)) (by repeat (first | exact Pick.here | apply Pick.there | apply Pick.right)) rfl
      refine callWith_type0 (r_dict0 O15 fun b s16 O16 => ?_)
      refine Attribute_any_ (r_ld O16 ?_ (hv := hself))
      refine r_attr X O16 (fun s17 O17 => ?_) (hv := rfl)
      refine r_ld O17 ?_ (hv := hN)
      refine r_setItem (d := nd) O17 (fun s18 O18 => ?_) (hsz := by rw [List.length_map, List.length_take, sizeLine_eq]; omega)
      rw [dict_new hnew] at O18
      refine wpAny_execs_nil ?_
      refine wpAny_execs_cons (wpAny_Expr_any (methodCall_KW (Subscript_ (Attribute_any_ (r_ld O18 ?_ (hv := hself))))))
      refine r_attr X O18 (fun s19 O19 => ?_) (hv := rfl)
      refine r_ld O19 ?_ (hv := hN)
      refine r_sub O19 (fun s20 O20 => ?_) (vAt_some (f := fun u => .ref (up1 f N[i] b u)) (List.mem_append_right _ (.head _)))
      rw [up1_same]
      have O21 := O20.to (qs := (b, IsD prog w []) :: (d, IsD prog w []) :: (c, IsD prog w []) :: (a, IsD prog w []) :: (I, IsLI la (i + 1)) :: (L, IsNs _) :: (g, IsO (plainObj 814 (some gd) #[])) :: (gd, IsS prog w (kvsD gg nd od pd)) :: (nd, IsD prog w _) :: (od, IsD prog w _) :: (pd, IsD prog w _) :: (la, IsI N) :: (fam (fun _ => IsD prog w []) ra (N.take i) ++ (fam (fun _ => IsD prog w []) pa (N.take i) ++ ps)))
      refine r_methUpdate O21 ?_ .here
      refine callWith_method1 (spliced_more (r_ld O21 (spliced_none ?_) (hv := upd_same _ _ _)))
      refine r_updE X O21 (fun s22 O22 => ?_) .here .here (by rw [sizeLine_eq]; simp)
      have hti : N.take (i + 1) = N.take i ++ [N[i]] := by rw [List.take_add_one, List.getElem?_eq_getElem hlt]; rfl
      refine wpAny_execs_nil ⟨N.length - (i + 1), by omega, i + 1, _, up1 ra N[i] a, up1 pa N[i] c, rfl, hlt, hself, upd_other (by decide) (upd_other (by decide) (upd_other (by decide) hm2)), ?_⟩
      rw [hti, fam_new hnew, fam_new hnew]
      have O23 := (O22.to (qs := (nd, IsD prog w ((N.take i ++ [N[i]]).map fun u => (u, .ref (up1 f N[i] b u)))) :: (c, IsD prog w []) :: (a, IsD prog w []) :: (I, IsLI la (i + 1)) :: (L, IsNs _) :: (d, IsD prog w []) :: (g, IsO (plainObj 814 (some gd) #[])) :: (gd, IsS prog w (kvsD gg nd od pd)) :: (od, IsD prog w _) :: (pd, IsD prog w _) :: (la, IsI N) :: (fam (fun _ => IsD prog w []) ra (N.take i) ++ (fam (fun _ => IsD prog w []) pa (N.take i) ++ ps)))).imp (P' := IsDK prog w (N.take i ++ [N[i]])) fun o ho => ⟨_, ho⟩
      have O24 := O23.to (qs := (c, IsD prog w []) :: (a, IsD prog w []) :: (I, IsLI la (i + 1)) :: (L, IsNs _) :: (d, IsD prog w []) :: (g, IsO (plainObj 814 (some gd) #[])) :: (gd, IsS prog w (kvsD gg nd od pd)) :: (nd, IsDK prog w (N.take i ++ [N[i]])) :: (od, IsD prog w _) :: (pd, IsD prog w _) :: (la, IsI N) :: (fam (fun _ => IsD prog w []) ra (N.take i) ++ (fam (fun _ => IsD prog w []) pa (N.take i) ++ ps)))
      have O25 := Own.tailPerm (front := [(a, IsD prog w []), (I, IsLI la (i + 1)), (L, IsNs _), (d, IsD prog w []), (g, IsO (plainObj 814 (some gd) #[])), (gd, IsS prog w (kvsD gg nd od pd)), (nd, IsDK prog w (N.take i ++ [N[i]])), (od, IsD prog w _), (pd, IsD prog w _), (la, IsI N)]) (T := fam (fun _ => IsD prog w []) ra (N.take i) ++ ((fam (fun _ => IsD prog w []) pa (N.take i) ++ [(c, IsD prog w [])]) ++ ps)) O24 perm_in2
      exact Own.tailPerm (front := [(I, IsLI la (i + 1)), (L, IsNs _), (d, IsD prog w []), (g, IsO (plainObj 814 (some gd) #[])), (gd, IsS prog w (kvsD gg nd od pd)), (nd, IsDK prog w (N.take i ++ [N[i]])), (od, IsD prog w _), (pd, IsD prog w _), (la, IsI N)]) O25 perm_in
    · have hi' : i = N.length := by omega
      subst hi'
      rw [List.take_length] at O3
      refine r_endI (xs := N) O3 hr.hh (List.getElem?_eq_none (Nat.le_refl _)) (fun s4 O4 => ?_) (by repeat (first | exact Pick.here | apply Pick.there | apply Pick.right))
      exact wpAny_execs_nil (wpAny_execs_nil (h ra pa s4 O4.to))
  · have O3 := (O2.to (qs := (nd, IsD prog w []) :: (I, IsLI la 0) :: (L, IsNs _) :: (d, IsD prog w []) :: (g, IsO (plainObj 814 (some gd) #[])) :: (gd, IsS prog w (kvsD gg nd od pd)) :: (od, IsD prog w []) :: (pd, IsD prog w []) :: (la, IsI N) :: ps)).imp (P' := IsDK prog w []) fun o ho => ⟨fun _ => 0, ho⟩
    exact O3.to (qs := (I, IsLI la 0) :: (L, IsNs _) :: (d, IsD prog w []) :: (g, IsO (plainObj 814 (some gd) #[])) :: (gd, IsS prog w (kvsD gg nd od pd)) :: (nd, IsDK prog w []) :: (od, IsD prog w []) :: (pd, IsD prog w []) :: (la, IsI N) :: ps)
end
end Mine
end

-- Ge
section
open PySem PySem.W PyProof.Rows PySem.Calls
set_option Elab.async false
set_option maxRecDepth 100000
set_option maxHeartbeats 1000000
set_option linter.unusedVariables false
namespace Mine
/-- a pair of ints -/
def IsT2 (a b : Int) (o : Obj) : Prop := ∃ t u : Tok, IsT [.int a t, .int b u] o
abbrev efam (es : List (Addr × Int × Int)) : List HP := es.map fun e => (e.1, IsT2 e.2.1 e.2.2)
abbrev dfam (prog : Program) (w : World) (D : List Addr) : List HP := D.map fun a => (a, IsD prog w [])
abbrev rfam (prog : Program) (w : World) (rk : Int → List (Int × Value)) (ra : Int → Addr) (N : List Int) : List HP := fam (fun u => IsD prog w (rk u)) ra N
theorem nodup_len {α : Type} [DecidableEq α] : ∀ {l m : List α}, l.Nodup → (∀ x ∈ l, x ∈ m) → l.length ≤ m.length
  | [], _, _, _ => Nat.zero_le _
  | x :: l, m, hn, hs => by
    obtain ⟨h1, h2⟩ := List.nodup_cons.mp hn
    have hx := hs x (.head _)
    have := nodup_len (l := l) (m := m.erase x) h2 fun y hy => (List.mem_erase_of_ne fun (e : y = x) => h1 (e ▸ hy)).mpr (hs y (.tail _ hy))
    rw [List.length_erase_of_mem hx] at this
    have := List.length_pos_of_mem hx
    simp only [List.length_cons]
    omega
theorem pick_d {prog : Program} {w : World} {D : List Addr} {a : Addr} (h : a ∈ D) : ∃ r, Pick a (IsD prog w []) (dfam prog w D) r := by
  obtain ⟨l1, l2, rfl⟩ := List.append_of_mem h
  refine ⟨dfam prog w l1 ++ dfam prog w l2, ?_⟩
  unfold dfam
  rw [List.map_append, List.map_cons]
  exact .right .here
/-- the rows after some edges: keys by the relation, values among the empties -/
structure RowsOk (N : List Int) (D : List Addr) (Adj : Int → Int → Prop) (rk : Int → List (Int × Value)) : Prop where
  keys : ∀ u v, v ∈ (rk u).map (·.1) ↔ Adj u v
  vals : ∀ u p, p ∈ rk u → ∃ a ∈ D, p.2 = .ref a
  inN : ∀ u v, Adj u v → u ∈ N ∧ v ∈ N
def adjU (es : List (Addr × Int × Int)) (u v : Int) : Prop := ∃ e ∈ es, (e.2.1 = u ∧ e.2.2 = v) ∨ (e.2.1 = v ∧ e.2.2 = u)
def adjD (es : List (Addr × Int × Int)) (u v : Int) : Prop := ∃ e ∈ es, e.2.1 = u ∧ e.2.2 = v
section
variable {prog : Program} {w : World} {A : Around} {E : Value → Shared → Prop} {σ s : Shared} {env : Env} {ps r r' r'' : List HP} {K : Frag} {mg mb m : Str → Option Value} {R : Result → Shared → Prop} {n : Nat} {g gd gg nd od el pd d : Addr} {N : List Int} {es : List (Addr × Int × Int)} {ra : Int → Addr}

theorem rowsOk_nil {Adj : Int → Int → Prop} (h : ∀ u v, ¬ Adj u v) : RowsOk N [] Adj fun _ => [] := ⟨fun u v => ⟨fun q => (by cases q), fun q => (h u v q).elim⟩, fun _ _ q => (by cases q), fun u v q => (h u v q).elim⟩
theorem rfam_up {rk : Int → List (Int × Value)} {u : Int} {kvs : List (Int × Value)} : fam (fun x => if x = u then IsD prog w kvs else IsD prog w (rk x)) ra N = rfam prog w (up1 rk u kvs) ra N := by
  unfold rfam fam
  refine List.map_congr_left fun x _ => ?_
  unfold up1
  by_cases e : x = u
  · simp [e]
  · simp [e]
theorem perm_in3 {x : HP} {F G T : List HP} : (x :: (F ++ (G ++ T))).Perm (F ++ (G ++ (x :: T))) := by
  refine List.perm_middle.symm.trans (List.Perm.append_left F ?_)
  exact List.perm_middle.symm
theorem perm_in4 {x : HP} {F G G' T : List HP} (h : (x :: G).Perm G') : (x :: (F ++ (G ++ T))).Perm (F ++ (G' ++ T)) :=
  List.perm_middle.symm.trans (List.Perm.append_left F (h.append_right T))
theorem Own.openT2 {a b : Int} {t : Addr} (O : Own σ ps s) (hp : Pick t (IsT2 a b) ps r) : ∃ t1 t2 : Tok, Own σ ((t, IsT [.int a t1, .int b t2]) :: r) s := by
  obtain ⟨o, ⟨t1, t2, h⟩, O'⟩ := (O.front hp).freeze
  exact ⟨t1, t2, O'.imp fun x hx => hx ▸ h⟩
theorem rowsOk_put {D : List Addr} {Adj : Int → Int → Prop} {rk : Int → List (Int × Value)} {a : Addr} {u v : Int} (h : RowsOk N D Adj rk) (ha : a ∈ D) (hu : u ∈ N) (hv : v ∈ N) :
    RowsOk N D (fun x y => Adj x y ∨ (x = u ∧ y = v)) (up1 rk u (stored (rk u) v (.ref a))) := by
  refine ⟨fun x y => ?_, fun x p hp => ?_, fun x y q => ?_⟩
  · by_cases e : x = u
    · subst e
      rw [up1_same, mem_keys_stored, h.keys]
      constructor
      · rintro (rfl | q)
        · exact .inr ⟨rfl, rfl⟩
        · exact .inl q
      · rintro (q | ⟨_, rfl⟩)
        · exact .inr q
        · exact .inl rfl
    · rw [up1_other e, h.keys]
      exact ⟨.inl, fun q => q.elim id fun z => absurd z.1 e⟩
  · by_cases e : x = u
    · subst e
      rw [up1_same] at hp
      rcases mem_stored hp with q | q
      · exact ⟨a, ha, q⟩
      · exact h.vals _ _ q
    · rw [up1_other e] at hp
      exact h.vals _ _ hp
  · rcases q with q | ⟨rfl, rfl⟩
    · exact h.inN _ _ q
    · exact ⟨hu, hv⟩
theorem RowsOk.more {D D' : List Addr} {Adj : Int → Int → Prop} {rk : Int → List (Int × Value)} (h : RowsOk N D Adj rk) (hd : ∀ a ∈ D, a ∈ D') : RowsOk N D' Adj rk := ⟨h.keys, fun u p hp => let ⟨a, ha, e⟩ := h.vals u p hp; ⟨a, hd a ha, e⟩, h.inN⟩
theorem RowsOk.iff {D : List Addr} {Adj Adj' : Int → Int → Prop} {rk : Int → List (Int × Value)} (h : RowsOk N D Adj rk) (e : ∀ u v, Adj u v ↔ Adj' u v) : RowsOk N D Adj' rk := ⟨fun u v => (h.keys u v).trans (e u v), h.vals, fun u v q => h.inN u v ((e u v).mpr q)⟩
theorem RowsOk.len {D : List Addr} {Adj : Int → Int → Prop} {rk : Int → List (Int × Value)} (h : RowsOk N D Adj rk) {u : Int} (hn : ((rk u).map (·.1)).Nodup) : (rk u).length ≤ N.length := by
  have := nodup_len hn fun x hx => (h.inN u x ((h.keys u x).mp hx)).2
  rwa [List.length_map] at this
theorem RowsOk.got {D : List Addr} {Adj : Int → Int → Prop} {rk : Int → List (Int × Value)} (h : RowsOk N D Adj rk) {u v : Int} {b : Addr} : ∃ a ∈ b :: D, (valueAt (rk u) v).getD (.ref b) = .ref a := by
  cases hv : valueAt (rk u) v with
  | none => exact ⟨b, .head _, rfl⟩
  | some x =>
    unfold valueAt at hv
    obtain ⟨p, hp, rfl⟩ := Option.map_eq_some_iff.mp hv
    obtain ⟨a, ha, e⟩ := h.vals u p (List.mem_of_find?_eq_some hp)
    exact ⟨a, .tail _ ha, e⟩
theorem Own.nodupD {kvs : List (Int × Value)} (O : Own σ ps s) (hp : Pick d (IsD prog w kvs) ps r) : (kvs.map (·.1)).Nodup := by
  obtain ⟨o, ho, _, _, _, _, _, _, h⟩ := O.get hp; exact h

theorem Own.dropMid {F M T : List HP} (O : Own σ (F ++ (M ++ T)) s) : Own σ (F ++ T) s :=
  ((O.perm (by rw [← List.append_assoc]; exact (List.perm_append_comm.append_right T)) : Own σ ((M ++ F) ++ T) s).perm (by rw [List.append_assoc]; exact List.perm_append_comm)).left
theorem adjU_snoc {l : List (Addr × Int × Int)} {t : Addr} {u v x y : Int} : ((adjU l x y ∨ (x = u ∧ y = v)) ∨ (x = v ∧ y = u)) ↔ adjU (l ++ [(t, u, v)]) x y := by
  unfold adjU
  constructor
  · rintro ((⟨e, he, q⟩ | ⟨rfl, rfl⟩) | ⟨rfl, rfl⟩)
    · exact ⟨e, List.mem_append_left _ he, q⟩
    · exact ⟨_, List.mem_append_right _ (.head _), .inl ⟨rfl, rfl⟩⟩
    · exact ⟨_, List.mem_append_right _ (.head _), .inr ⟨rfl, rfl⟩⟩
  · rintro ⟨e, he, q⟩
    rcases List.mem_append.mp he with h | h
    · exact .inl (.inl ⟨e, h, q⟩)
    · rw [List.mem_singleton] at h
      subst h
      rcases q with ⟨rfl, rfl⟩ | ⟨rfl, rfl⟩
      · exact .inl (.inr ⟨rfl, rfl⟩)
      · exact .inr ⟨rfl, rfl⟩
theorem adjD_snoc {l : List (Addr × Int × Int)} {t : Addr} {u v x y : Int} : (adjD l x y ∨ (x = u ∧ y = v)) ↔ adjD (l ++ [(t, u, v)]) x y := by
  unfold adjD
  constructor
  · rintro (⟨e, he, q⟩ | ⟨rfl, rfl⟩)
    · exact ⟨e, List.mem_append_left _ he, q⟩
    · exact ⟨_, List.mem_append_right _ (.head _), rfl, rfl⟩
  · rintro ⟨e, he, q⟩
    rcases List.mem_append.mp he with h | h
    · exact .inl ⟨e, h, q⟩
    · rw [List.mem_singleton] at h
      subst h
      exact .inr ⟨q.1.symm, q.2.symm⟩

theorem add_edges_un (X : PF (KF w) σ mg mb) (O : Own σ ((g, IsO (plainObj 638 (some gd) #[])) :: (gd, IsS prog w (kvsU gg nd od)) :: (nd, IsDK prog w N) :: (od, IsD prog w (N.map fun u => (u, .ref (ra u)))) :: (el, IsL (es.map fun e => .ref e.1)) :: (efam es ++ (fam (fun _ => IsD prog w []) ra N ++ ps))) s)
    (hn : N.Nodup) (hz : N.length ≤ 1000) (hN : ∀ e ∈ es, e.2.1 ∈ N ∧ e.2.2 ∈ N) (hr : Room A (n + 2))
    (h : ∀ rk s', (∀ u v, v ∈ (rk u).map (·.1) ↔ adjU es u v) → Own σ ((g, IsO (plainObj 638 (some gd) #[])) :: (gd, IsS prog w (kvsU gg nd od)) :: (nd, IsDK prog w N) :: (od, IsD prog w (N.map fun u => (u, .ref (ra u)))) :: (rfam prog w rk ra N ++ ps)) s' → R (.ok (.ret .none)) s') :
    codeAny (model prog w) A (.call (.ref 540) ⟨[.ref g, .ref el], []⟩) R s := by
  refine c_defKw X O hr rfl rfl (pre := [("self", .ref g), ("ebunch_to_add", .ref el)]) (kn := "attr") (fun _ _ _ _ h => h) fun d L s1 E' O1 hr1 => ?_
  refine wpAny_execs_cons (wpAny_For (r_ld O1 ?_ (hv := rfl)))
  refine r_iterL O1 (fun I s2 O2 => ?_) (by repeat (first | exact Pick.here | apply Pick.there | apply Pick.right))
  refine codeAny_forLoop (fun k s => ∃ (i : Nat) (m : Str → Option Value) (rk : Int → List (Int × Value)) (D : List Addr), k = es.length - i ∧ i ≤ es.length ∧ m "self" = some (.ref g) ∧ m "attr" = some (.ref d) ∧ RowsOk N D (adjU (es.take i)) rk ∧
    Own σ ((I, IsLI el i) :: (L, IsNs m) :: (d, IsD prog w []) :: (g, IsO (plainObj 638 (some gd) #[])) :: (gd, IsS prog w (kvsU gg nd od)) :: (nd, IsDK prog w N) :: (od, IsD prog w (N.map fun u => (u, .ref (ra u)))) :: (el, IsL (es.map fun e => .ref e.1)) :: (efam (es.drop i) ++ (rfam prog w rk ra N ++ (dfam prog w D ++ ps)))) s) ?_ _
    ⟨0, fun x => (([("self", .ref g), ("ebunch_to_add", .ref el)] : List (Str × Value)) ++ ([("attr", .ref d)] : List (Str × Value))).reverse.lookup x, fun _ => [], [], rfl, Nat.zero_le _, rfl, rfl, rowsOk_nil (fun u v ⟨_, q, _⟩ => by cases q), ?_⟩
  · rintro k s3 ⟨i, m, rk, D, rfl, hi, hm1, hm2, hok, O3⟩
    rcases Nat.lt_or_ge i es.length with hlt | hge
    · rw [List.drop_eq_getElem_cons hlt] at O3
      refine r_nextL (vs := es.map fun e => Value.ref e.1) O3 (v := .ref es[i].1) (by rw [List.getElem?_map, List.getElem?_eq_getElem hlt]; rfl) (fun s4 O4 => ?_) (by repeat (first | exact Pick.here | apply Pick.there | apply Pick.right))
      refine wpAny_assign_Name (r_st O4 (fun s5 O5 => ?_) (hp := .there .here))
      generalize hee : es[i] = ee at O5
      obtain ⟨ta, u, v⟩ := ee
      have hmem : (ta, u, v) ∈ es := hee ▸ List.getElem_mem hlt
      obtain ⟨hu, hv⟩ := hN _ hmem
      simp only at hu hv
      obtain ⟨t1, t2, O6⟩ := O5.openT2 (t := ta) (a := u) (b := v) (.there (.there (.there (.there (.there (.there (.there (.there .here))))))))
      obtain ⟨f, O7⟩ := O6.openDK (d := nd) (by repeat (first | exact Pick.here | apply Pick.there | apply Pick.right))
      refine wpAny_execs_cons (wpAny_Assign_Name (wpAny_Call_NameR (r_bltn X O7 ?_ (v := .builtin "len") (hv := by kernel_rfl))))
      refine PyProof.Rows.callWith_builtin1 (spliced_more (r_ld O7 (spliced_none ?_) (hv := upd_same _ _ _)))
      refine r_lenT O7 (.there .here) (by simp) fun t3 s8 O8 => ?_
      refine r_st O8 fun s9 O9 => ?_
      refine wpAny_execs_cons (wpAny_If (wpAny_isTrue_Compare1 (r_ld O9 (r_int O9 fun t4 s10 O10 => r_eq (wpAny_truthy_bool ?_)) (hv := upd_same _ _ _))))
      refine wpAny_execs_cons (wpAny_If (wpAny_isTrue_Compare1 (r_ld O10 (r_int O10 fun t5 s11 O11 => r_eq (wpAny_truthy_bool ?_)) (hv := upd_same _ _ _))))
      refine wpAny_execs_cons (Assign_Tuple (r_ld O11 ?_ (hv := upd_other (by decide) (upd_same _ _ _))))
      refine r_unpack2 O11 hr1.hh (.there (.there .here)) rfl rfl rfl fun s12 O12 => ?_
      refine wpAny_assign_Name (r_st O12 fun s13 O13 => ?_)
      refine wpAny_assign_Name (r_st O13 fun s14 O14 => ?_)
      refine wpAny_execs_cons (wpAny_Assign_Name (r_Dict0 O14 fun dd s15 O15 => ?_))
      refine r_st O15 fun s16 O16 => wpAny_execs_nil (wpAny_execs_nil ?_)
      have hS : upd (upd (upd (upd (upd m "e" (.ref ta)) "ne" (.int 2 t3)) "u" (.int u t1)) "v" (.int v t2)) "dd" (.ref dd) "self" = some (.ref g) := upd_other (by decide) (upd_other (by decide) (upd_other (by decide) (upd_other (by decide) (upd_other (by decide) hm1))))
      have hA : upd (upd (upd (upd (upd m "e" (.ref ta)) "ne" (.int 2 t3)) "u" (.int u t1)) "v" (.int v t2)) "dd" (.ref dd) "attr" = some (.ref d) := upd_other (by decide) (upd_other (by decide) (upd_other (by decide) (upd_other (by decide) (upd_other (by decide) hm2))))
      have hU : upd (upd (upd (upd (upd m "e" (.ref ta)) "ne" (.int 2 t3)) "u" (.int u t1)) "v" (.int v t2)) "dd" (.ref dd) "u" = some (.int u t1) := upd_other (by decide) (upd_other (by decide) (upd_same _ _ _))
      have hV : upd (upd (upd (upd (upd m "e" (.ref ta)) "ne" (.int 2 t3)) "u" (.int u t1)) "v" (.int v t2)) "dd" (.ref dd) "v" = some (.int v t2) := upd_other (by decide) (upd_same _ _ _)
      have hD : upd (upd (upd (upd (upd m "e" (.ref ta)) "ne" (.int 2 t3)) "u" (.int u t1)) "v" (.int v t2)) "dd" (.ref dd) "dd" = some (.ref dd) := upd_same _ _ _
      have O17 := O16.to (qs := (L, IsNs (upd (upd (upd (upd (upd m "e" (.ref ta)) "ne" (.int 2 t3)) "u" (.int u t1)) "v" (.int v t2)) "dd" (.ref dd))) :: (dd, IsD prog w []) :: (d, IsD prog w []) :: (I, IsLI el (i + 1)) :: (g, IsO (plainObj 638 (some gd) #[])) :: (gd, IsS prog w (kvsU gg nd od)) :: (nd, IsD prog w (N.map fun u => (u, .ref (f u)))) :: (od, IsD prog w (N.map fun u => (u, .ref (ra u)))) :: (el, IsL (es.map fun e => .ref e.1)) :: (efam (es.drop (i + 1)) ++ (rfam prog w rk ra N ++ (dfam prog w D ++ ps))))
      generalize upd (upd (upd (upd (upd m "e" (.ref ta)) "ne" (.int 2 t3)) "u" (.int u t1)) "v" (.int v t2)) "dd" (.ref dd) = m5 at hS hA hU hV hD O17
      refine wpAny_execs_cons (wpAny_If (wpAny_isTrue_Compare1 (r_ld O17 (Attribute_any_ (r_ld O17 ?_ (hv := hS))) (hv := hU))))
      refine r_attr X O17 (fun s18 O18 => ?_) (hv := rfl)
      refine r_notin (d := nd) X O18 (fun s19 O19 => ?_)
      rw [vAt_isSome (f := fun u => .ref (f u)), decide_eq_true hu]
      refine wpAny_truthy_bool (wpAny_execs_nil ?_)
      refine wpAny_execs_cons (wpAny_If (wpAny_isTrue_Compare1 (r_ld O19 (Attribute_any_ (r_ld O19 ?_ (hv := hS))) (hv := hV))))
      refine r_attr X O19 (fun s20 O20 => ?_) (hv := rfl)
      refine r_notin (d := nd) X O20 (fun s21 O21 => ?_)
      rw [vAt_isSome (f := fun u => .ref (f u)), decide_eq_true hv]
      refine wpAny_truthy_bool (wpAny_execs_nil ?_)
      refine wpAny_execs_cons (wpAny_Assign_Name (methodCall_KW (Subscript_ (Attribute_any_ (r_ld O21 ?_ (hv := hS))))))
      refine r_attr X O21 (fun s22 O22 => ?_) (hv := rfl)
      refine r_ld O22 ?_ (hv := hU)
      refine r_sub (d := od) O22 (fun s23 O23 => ?_) (vAt_some (f := fun u => .ref (ra u)) hu)
      obtain ⟨q, hq1, hq2⟩ := pick_fam1 (P := fun u => IsD prog w (rk u)) (ra := ra) hn hu
      refine r_methGetD O23 ?_ (.there (.there (.there (.there (.there (.there (.there (.there (.there (.right (.left hq1)))))))))))
      refine callWith_method1 (spliced_more (r_ld O23 (spliced_more (methodCall_KW (r_ld O23 ?_ (hv := hS)))) (hv := hV)))
      refine r_methV X O23 (fun s24 O24 => ?_) (by repeat (first | exact Pick.here | apply Pick.there | apply Pick.right)) (by repeat (first | exact Pick.here | apply Pick.there | apply Pick.right)) rfl
      refine callWith_type0 (r_dict0 O24 fun b s25 O25 => spliced_none ?_)
      refine r_get2 X O25 (fun s26 O26 => ?_) (.there (.there (.there (.there (.there (.there (.there (.there (.there (.there (.right (.left hq1))))))))))))
      obtain ⟨a, ha, hae⟩ := hok.got (u := u) (v := v) (b := b)
      rw [hae]
      refine r_st O26 (fun s27 O27 => ?_) (hp := .there .here)
      have hS6 : upd m5 "datadict" (.ref a) "self" = some (.ref g) := upd_other (by decide) hS
      have hA6 : upd m5 "datadict" (.ref a) "attr" = some (.ref d) := upd_other (by decide) hA
      have hU6 : upd m5 "datadict" (.ref a) "u" = some (.int u t1) := upd_other (by decide) hU
      have hV6 : upd m5 "datadict" (.ref a) "v" = some (.int v t2) := upd_other (by decide) hV
      have hD6 : upd m5 "datadict" (.ref a) "dd" = some (.ref dd) := upd_other (by decide) hD
      have hX6 : upd m5 "datadict" (.ref a) "datadict" = some (.ref a) := upd_same _ _ _
      generalize upd m5 "datadict" (.ref a) = m6 at hS6 hA6 hU6 hV6 hD6 hX6 O27
      have O28 : Own σ ((L, IsNs m6) :: (dd, IsD prog w []) :: (d, IsD prog w []) :: (I, IsLI el (i + 1)) :: (g, IsO (plainObj 638 (some gd) #[])) :: (gd, IsS prog w (kvsU gg nd od)) :: (nd, IsD prog w (N.map fun u => (u, .ref (f u)))) :: (od, IsD prog w (N.map fun u => (u, .ref (ra u)))) :: (el, IsL (es.map fun e => .ref e.1)) :: (efam (es.drop (i + 1)) ++ (rfam prog w rk ra N ++ (dfam prog w (b :: D) ++ ps)))) s27 :=
        Own.tailPerm (front := [(L, IsNs m6), (dd, IsD prog w []), (d, IsD prog w []), (I, IsLI el (i + 1)), (g, IsO (plainObj 638 (some gd) #[])), (gd, IsS prog w (kvsU gg nd od)), (nd, IsD prog w (N.map fun u => (u, .ref (f u)))), (od, IsD prog w (N.map fun u => (u, .ref (ra u)))), (el, IsL (es.map fun e => .ref e.1))])
          (T := efam (es.drop (i + 1)) ++ (rfam prog w rk ra N ++ ((b, IsD prog w []) :: (dfam prog w D ++ ps)))) (O27.perm (.swap _ _ _)) perm_in3
      obtain ⟨pr, hpa⟩ := pick_d (prog := prog) (w := w) ha
      refine wpAny_execs_cons (wpAny_Expr_any (methodCall_KW (r_ld O28 ?_ (hv := hX6))))
      refine r_methUpdate O28 ?_ (.there (.there (.there (.there (.there (.there (.there (.there (.there (.right (.right (.left hpa))))))))))))
      refine callWith_method1 (spliced_more (r_ld O28 (spliced_none ?_) (hv := hA6)))
      refine r_updE X O28 (fun s29 O29 => ?_) (.there (.there (.there (.there (.there (.there (.there (.there (.there (.right (.right (.left hpa)))))))))))) (.there (.there .here)) (by rw [sizeLine_eq]; simp)
      refine wpAny_execs_cons (wpAny_Expr_any (methodCall_KW (r_ld O29 ?_ (hv := hX6))))
      refine r_methUpdate O29 ?_ (.there (.there (.there (.there (.there (.there (.there (.there (.there (.right (.right (.left hpa))))))))))))
      refine callWith_method1 (spliced_more (r_ld O29 (spliced_none ?_) (hv := hD6)))
      refine r_updE X O29 (fun s30 O30 => ?_) (.there (.there (.there (.there (.there (.there (.there (.there (.there (.right (.right (.left hpa)))))))))))) (.there .here) (by rw [sizeLine_eq]; simp)
      -- the first row
      refine wpAny_execs_cons (wpAny_Assign_Subscript (r_ld O30 (Subscript_ (Attribute_any_ (r_ld O30 ?_ (hv := hS6)))) (hv := hX6)))
      refine r_attr X O30 (fun s31 O31 => ?_) (hv := rfl)
      refine r_ld O31 ?_ (hv := hU6)
      refine r_sub (d := od) O31 (fun s32 O32 => ?_) (vAt_some (f := fun u => .ref (ra u)) hu)
      refine r_ld O32 ?_ (hv := hV6)
      have hlen := hok.len (u := u) (O32.nodupD (.there (.there (.there (.there (.there (.there (.there (.there (.there (.right (.left hq1))))))))))))
      refine r_setItem (d := ra u) O32 (fun s33 O33 => ?_) (.there (.there (.there (.there (.there (.there (.there (.there (.there (.right (.left hq1))))))))))) (by rw [sizeLine_eq]; omega)
      have hq3 := hq2 (IsD prog w (stored (rk u) v (.ref a)))
      rw [rfam_up] at hq3
      have O34 : Own σ ((L, IsNs m6) :: (dd, IsD prog w []) :: (d, IsD prog w []) :: (I, IsLI el (i + 1)) :: (g, IsO (plainObj 638 (some gd) #[])) :: (gd, IsS prog w (kvsU gg nd od)) :: (nd, IsD prog w (N.map fun u => (u, .ref (f u)))) :: (od, IsD prog w (N.map fun u => (u, .ref (ra u)))) :: (el, IsL (es.map fun e => .ref e.1)) :: (efam (es.drop (i + 1)) ++ (rfam prog w (up1 rk u (stored (rk u) v (.ref a))) ra N ++ (dfam prog w (b :: D) ++ ps)))) s33 :=
        Own.tailPerm (front := [(L, IsNs m6), (dd, IsD prog w []), (d, IsD prog w []), (I, IsLI el (i + 1)), (g, IsO (plainObj 638 (some gd) #[])), (gd, IsS prog w (kvsU gg nd od)), (nd, IsD prog w (N.map fun u => (u, .ref (f u)))), (od, IsD prog w (N.map fun u => (u, .ref (ra u)))), (el, IsL (es.map fun e => .ref e.1))]) O33 (perm_in4 hq3)
      have hok1 := rowsOk_put (hok.more fun x hx => .tail b hx) ha hu hv
      generalize up1 rk u (stored (rk u) v (.ref a)) = rk1 at hok1 O34
      -- the second row
      refine wpAny_execs_cons (wpAny_Assign_Subscript (r_ld O34 (Subscript_ (Attribute_any_ (r_ld O34 ?_ (hv := hS6)))) (hv := hX6)))
      refine r_attr X O34 (fun s35 O35 => ?_) (hv := rfl)
      refine r_ld O35 ?_ (hv := hV6)
      refine r_sub (d := od) O35 (fun s36 O36 => ?_) (vAt_some (f := fun u => .ref (ra u)) hv)
      refine r_ld O36 ?_ (hv := hU6)
      obtain ⟨q', hq1', hq2'⟩ := pick_fam1 (P := fun u => IsD prog w (rk1 u)) (ra := ra) hn hv
      have hlen' := hok1.len (u := v) (O36.nodupD (.there (.there (.there (.there (.there (.there (.there (.there (.there (.right (.left hq1'))))))))))))
      refine r_setItem (d := ra v) O36 (fun s37 O37 => ?_) (.there (.there (.there (.there (.there (.there (.there (.there (.there (.right (.left hq1'))))))))))) (by rw [sizeLine_eq]; omega)
      have hq3' := hq2' (IsD prog w (stored (rk1 v) u (.ref a)))
      rw [rfam_up] at hq3'
      have O38 : Own σ ((L, IsNs m6) :: (dd, IsD prog w []) :: (d, IsD prog w []) :: (I, IsLI el (i + 1)) :: (g, IsO (plainObj 638 (some gd) #[])) :: (gd, IsS prog w (kvsU gg nd od)) :: (nd, IsD prog w (N.map fun u => (u, .ref (f u)))) :: (od, IsD prog w (N.map fun u => (u, .ref (ra u)))) :: (el, IsL (es.map fun e => .ref e.1)) :: (efam (es.drop (i + 1)) ++ (rfam prog w (up1 rk1 v (stored (rk1 v) u (.ref a))) ra N ++ (dfam prog w (b :: D) ++ ps)))) s37 :=
        Own.tailPerm (front := [(L, IsNs m6), (dd, IsD prog w []), (d, IsD prog w []), (I, IsLI el (i + 1)), (g, IsO (plainObj 638 (some gd) #[])), (gd, IsS prog w (kvsU gg nd od)), (nd, IsD prog w (N.map fun u => (u, .ref (f u)))), (od, IsD prog w (N.map fun u => (u, .ref (ra u)))), (el, IsL (es.map fun e => .ref e.1))]) O37 (perm_in4 hq3')
      have hok2 := rowsOk_put hok1 ha hv hu
      have hti : es.take (i + 1) = es.take i ++ [(ta, u, v)] := by rw [List.take_add_one, List.getElem?_eq_getElem hlt, hee]; rfl
      have O39 := (O38.to (qs := (nd, IsD prog w (N.map fun u => (u, .ref (f u)))) :: (I, IsLI el (i + 1)) :: (L, IsNs m6) :: (d, IsD prog w []) :: (g, IsO (plainObj 638 (some gd) #[])) :: (gd, IsS prog w (kvsU gg nd od)) :: (od, IsD prog w (N.map fun u => (u, .ref (ra u)))) :: (el, IsL (es.map fun e => .ref e.1)) :: (efam (es.drop (i + 1)) ++ (rfam prog w (up1 rk1 v (stored (rk1 v) u (.ref a))) ra N ++ (dfam prog w (b :: D) ++ ps))))).imp (P' := IsDK prog w N) fun o ho => ⟨_, ho⟩
      refine wpAny_execs_nil ⟨es.length - (i + 1), by omega, i + 1, m6, _, b :: D, rfl, hlt, hS6, hA6, by rw [hti]; exact hok2.iff fun x y => adjU_snoc, ?_⟩
      exact O39.to (qs := (I, IsLI el (i + 1)) :: (L, IsNs m6) :: (d, IsD prog w []) :: (g, IsO (plainObj 638 (some gd) #[])) :: (gd, IsS prog w (kvsU gg nd od)) :: (nd, IsDK prog w N) :: (od, IsD prog w (N.map fun u => (u, .ref (ra u)))) :: (el, IsL (es.map fun e => .ref e.1)) :: (efam (es.drop (i + 1)) ++ (rfam prog w (up1 rk1 v (stored (rk1 v) u (.ref a))) ra N ++ (dfam prog w (b :: D) ++ ps))))
    · have hi' : i = es.length := by omega
      subst hi'
      rw [List.take_length] at hok
      rw [List.drop_length] at O3
      refine r_endL (vs := es.map fun e => Value.ref e.1) O3 hr.hh (List.getElem?_eq_none (by rw [List.length_map]; exact Nat.le_refl _)) (fun s4 O4 => ?_) (by repeat (first | exact Pick.here | apply Pick.there | apply Pick.right))
      refine wpAny_execs_nil (wpAny_execs_nil (h rk s4 hok.keys ?_))
      have O5 := O4.to (qs := (g, IsO (plainObj 638 (some gd) #[])) :: (gd, IsS prog w (kvsU gg nd od)) :: (nd, IsDK prog w N) :: (od, IsD prog w (N.map fun u => (u, .ref (ra u)))) :: (rfam prog w rk ra N ++ (dfam prog w D ++ ps)))
      exact Own.dropMid (F := (g, IsO (plainObj 638 (some gd) #[])) :: (gd, IsS prog w (kvsU gg nd od)) :: (nd, IsDK prog w N) :: (od, IsD prog w (N.map fun u => (u, .ref (ra u)))) :: rfam prog w rk ra N) O5
  · exact O2.to (qs := (I, IsLI el 0) :: (L, IsNs _) :: (d, IsD prog w []) :: (g, IsO (plainObj 638 (some gd) #[])) :: (gd, IsS prog w (kvsU gg nd od)) :: (nd, IsDK prog w N) :: (od, IsD prog w (N.map fun u => (u, .ref (ra u)))) :: (el, IsL (es.map fun e => .ref e.1)) :: (efam es ++ (fam (fun _ => IsD prog w []) ra N ++ ps)))
end
end Mine
end

-- Ge2
section
open PySem PySem.W PyProof.Rows PySem.Calls
set_option Elab.async false
set_option maxRecDepth 100000
set_option maxHeartbeats 1000000
set_option linter.unusedVariables false
namespace Mine
section
variable {prog : Program} {w : World} {A : Around} {E : Value → Shared → Prop} {σ s : Shared} {env : Env} {ps r r' r'' : List HP} {K : Frag} {mg mb m : Str → Option Value} {R : Result → Shared → Prop} {n : Nat} {g gd gg nd od el pd d : Addr} {N : List Int} {es : List (Addr × Int × Int)} {ra : Int → Addr}

/-- a dict with such keys -/
def IsDv (prog : Program) (w : World) (N : List Int) (o : Obj) : Prop := ∃ kvs : List (Int × Value), IsD prog w kvs o ∧ ∀ x ∈ kvs.map (·.1), x ∈ N
theorem Own.openDv (O : Own σ ps s) (hp : Pick d (IsDv prog w N) ps r) : ∃ kvs : List (Int × Value), (∀ x ∈ kvs.map (·.1), x ∈ N) ∧ Own σ ((d, IsD prog w kvs) :: r) s := by
  obtain ⟨o, ⟨kvs, h1, h2⟩, O'⟩ := (O.front hp).freeze
  exact ⟨kvs, h2, O'.imp fun x hx => hx ▸ h1⟩
theorem perm_in5 {x : HP} {F G D H H' T : List HP} (h : (x :: H).Perm H') : (x :: (F ++ (G ++ (D ++ (H ++ T))))).Perm (F ++ (G ++ (D ++ (H' ++ T)))) := by
  refine List.perm_middle.symm.trans (List.Perm.append_left F ?_)
  refine List.perm_middle.symm.trans (List.Perm.append_left G ?_)
  exact perm_in4 h
/-- each word for a weaker one -/
inductive Weak : List HP → List HP → Prop
  | refl (l) : Weak l l
  | cons {a P P' l l'} : (∀ o, P o → P' o) → Weak l l' → Weak ((a, P) :: l) ((a, P') :: l')
theorem Weak.keys {l l' : List HP} (h : Weak l l') : l'.map (·.1) = l.map (·.1) := by
  induction h with
  | refl => rfl
  | cons _ _ ih => simp [ih]
theorem Weak.mem {l l' : List HP} (h : Weak l l') : ∀ p ∈ l', ∃ p' ∈ l, p'.1 = p.1 ∧ ∀ o, p'.2 o → p.2 o := by
  induction h with
  | refl => exact fun p hp => ⟨p, hp, rfl, fun _ q => q⟩
  | @cons a P P' l l' hP _ ih =>
    intro p hp
    rcases List.mem_cons.mp hp with rfl | hp
    · exact ⟨_, .head _, rfl, hP⟩
    · obtain ⟨p', h1, h2⟩ := ih p hp
      exact ⟨p', .tail _ h1, h2⟩
theorem Weak.front : ∀ {F l l' : List HP}, Weak l l' → Weak (F ++ l) (F ++ l')
  | [], _, _, h => h
  | (a, P) :: F, _, _, h => .cons (fun _ q => q) (Weak.front (F := F) h)
theorem Weak.append : ∀ {l l' T : List HP}, Weak l l' → Weak (l ++ T) (l' ++ T)
  | _, _, _, .refl _ => .refl _
  | _, _, _, .cons hP h => .cons hP h.append
theorem Own.weak {ps qs : List HP} (O : Own σ ps s) (h : Weak ps qs) : Own σ qs s where
  keep := O.keep
  mem := fun p hp => by
    obtain ⟨p', h1, h2, h3⟩ := h.mem p hp
    obtain ⟨o, ho, hP⟩ := O.mem p' h1
    exact ⟨o, h2 ▸ ho, h3 o hP⟩
  above := fun p hp => by
    obtain ⟨p', h1, h2, h3⟩ := h.mem p hp
    exact h2 ▸ O.above p' h1
  top := O.top
  nd := by rw [h.keys]; exact O.nd
  gens := O.gens
  drawn := O.drawn
  os := O.os
theorem weak_fam {P P' : Int → Obj → Prop} {ra : Int → Addr} (h : ∀ u o, P u o → P' u o) : ∀ N : List Int, Weak (fam P ra N) (fam P' ra N)
  | [] => .refl _
  | u :: N => .cons (h u) (weak_fam h N)
theorem famsDv {F T : List HP} {pa : Int → Addr} : Weak (F ++ (fam (fun _ => IsD prog w []) pa N ++ T)) (F ++ (fam (fun _ => IsDv prog w N) pa N ++ T)) :=
  Weak.front (Weak.append (weak_fam (fun _ o h => ⟨[], h, fun _ hx => by cases hx⟩) N))

theorem add_edges_di {pa : Int → Addr} (X : PF (KF w) σ mg mb) (O : Own σ ((g, IsO (plainObj 814 (some gd) #[])) :: (gd, IsS prog w (kvsD gg nd od pd)) :: (nd, IsDK prog w N) :: (od, IsD prog w (N.map fun u => (u, .ref (ra u)))) :: (pd, IsD prog w (N.map fun u => (u, .ref (pa u)))) :: (el, IsL (es.map fun e => .ref e.1)) :: (efam es ++ (fam (fun _ => IsD prog w []) ra N ++ (fam (fun _ => IsD prog w []) pa N ++ ps)))) s)
    (hn : N.Nodup) (hz : N.length ≤ 1000) (hN : ∀ e ∈ es, e.2.1 ∈ N ∧ e.2.2 ∈ N) (hr : Room A (n + 2))
    (h : ∀ rk s', (∀ u v, v ∈ (rk u).map (·.1) ↔ adjD es u v) → Own σ ((g, IsO (plainObj 814 (some gd) #[])) :: (gd, IsS prog w (kvsD gg nd od pd)) :: (nd, IsDK prog w N) :: (od, IsD prog w (N.map fun u => (u, .ref (ra u)))) :: (rfam prog w rk ra N ++ ps)) s' → R (.ok (.ret .none)) s') :
    codeAny (model prog w) A (.call (.ref 726) ⟨[.ref g, .ref el], []⟩) R s := by
  have O := Own.weak O (Weak.front (F := [(g, IsO (plainObj 814 (some gd) #[])), (gd, IsS prog w (kvsD gg nd od pd)), (nd, IsDK prog w N), (od, IsD prog w (N.map fun u => (u, .ref (ra u)))), (pd, IsD prog w (N.map fun u => (u, .ref (pa u)))), (el, _)]) (Weak.front (F := efam es) (famsDv (prog := prog) (w := w) (N := N) (pa := pa) (F := fam (fun _ => IsD prog w []) ra N) (T := ps))))
  refine c_defKw X O hr rfl rfl (pre := [("self", .ref g), ("ebunch_to_add", .ref el)]) (kn := "attr") (fun _ _ _ _ h => h) fun d L s1 E' O1 hr1 => ?_
  refine wpAny_execs_cons (wpAny_For (r_ld O1 ?_ (hv := rfl)))
  refine r_iterL O1 (fun I s2 O2 => ?_) (by repeat (first | exact Pick.here | apply Pick.there | apply Pick.right))
  refine codeAny_forLoop (fun k s => ∃ (i : Nat) (m : Str → Option Value) (rk : Int → List (Int × Value)) (D : List Addr), k = es.length - i ∧ i ≤ es.length ∧ m "self" = some (.ref g) ∧ m "attr" = some (.ref d) ∧ RowsOk N D (adjD (es.take i)) rk ∧
    Own σ ((I, IsLI el i) :: (L, IsNs m) :: (d, IsD prog w []) :: (g, IsO (plainObj 814 (some gd) #[])) :: (gd, IsS prog w (kvsD gg nd od pd)) :: (nd, IsDK prog w N) :: (od, IsD prog w (N.map fun u => (u, .ref (ra u)))) :: (pd, IsD prog w (N.map fun u => (u, .ref (pa u)))) :: (el, IsL (es.map fun e => .ref e.1)) :: (efam (es.drop i) ++ (rfam prog w rk ra N ++ (dfam prog w D ++ (fam (fun _ => IsDv prog w N) pa N ++ ps))))) s) ?_ _
    ⟨0, fun x => (([("self", .ref g), ("ebunch_to_add", .ref el)] : List (Str × Value)) ++ ([("attr", .ref d)] : List (Str × Value))).reverse.lookup x, fun _ => [], [], rfl, Nat.zero_le _, rfl, rfl, rowsOk_nil (fun u v ⟨_, q, _⟩ => by cases q), ?_⟩
  · rintro k s3 ⟨i, m, rk, D, rfl, hi, hm1, hm2, hok, O3⟩
    rcases Nat.lt_or_ge i es.length with hlt | hge
    · rw [List.drop_eq_getElem_cons hlt] at O3
      refine r_nextL (vs := es.map fun e => Value.ref e.1) O3 (v := .ref es[i].1) (by rw [List.getElem?_map, List.getElem?_eq_getElem hlt]; rfl) (fun s4 O4 => ?_) (by repeat (first | exact Pick.here | apply Pick.there | apply Pick.right))
      refine wpAny_assign_Name (r_st O4 (fun s5 O5 => ?_) (hp := .there .here))
      generalize hee : es[i] = ee at O5
      obtain ⟨ta, u, v⟩ := ee
      have hmem : (ta, u, v) ∈ es := hee ▸ List.getElem_mem hlt
      obtain ⟨hu, hv⟩ := hN _ hmem
      simp only at hu hv
      obtain ⟨t1, t2, O6⟩ := O5.openT2 (t := ta) (a := u) (b := v) (.there (.there (.there (.there (.there (.there (.there (.there (.there .here)))))))))
      obtain ⟨f, O7⟩ := O6.openDK (d := nd) (by repeat (first | exact Pick.here | apply Pick.there | apply Pick.right))
      refine wpAny_execs_cons (wpAny_Assign_Name (wpAny_Call_NameR (r_bltn X O7 ?_ (v := .builtin "len") (hv := by kernel_rfl))))
      refine PyProof.Rows.callWith_builtin1 (spliced_more (r_ld O7 (spliced_none ?_) (hv := upd_same _ _ _)))
      refine r_lenT O7 (.there .here) (by simp) fun t3 s8 O8 => ?_
      refine r_st O8 fun s9 O9 => ?_
      refine wpAny_execs_cons (wpAny_If (wpAny_isTrue_Compare1 (r_ld O9 (r_int O9 fun t4 s10 O10 => r_eq (wpAny_truthy_bool ?_)) (hv := upd_same _ _ _))))
      refine wpAny_execs_cons (wpAny_If (wpAny_isTrue_Compare1 (r_ld O10 (r_int O10 fun t5 s11 O11 => r_eq (wpAny_truthy_bool ?_)) (hv := upd_same _ _ _))))
      refine wpAny_execs_cons (Assign_Tuple (r_ld O11 ?_ (hv := upd_other (by decide) (upd_same _ _ _))))
      refine r_unpack2 O11 hr1.hh (.there (.there .here)) rfl rfl rfl fun s12 O12 => ?_
      refine wpAny_assign_Name (r_st O12 fun s13 O13 => ?_)
      refine wpAny_assign_Name (r_st O13 fun s14 O14 => ?_)
      refine wpAny_execs_cons (wpAny_Assign_Name (r_Dict0 O14 fun dd s15 O15 => ?_))
      refine r_st O15 fun s16 O16 => wpAny_execs_nil (wpAny_execs_nil ?_)
      have hS : upd (upd (upd (upd (upd m "e" (.ref ta)) "ne" (.int 2 t3)) "u" (.int u t1)) "v" (.int v t2)) "dd" (.ref dd) "self" = some (.ref g) := upd_other (by decide) (upd_other (by decide) (upd_other (by decide) (upd_other (by decide) (upd_other (by decide) hm1))))
      have hA : upd (upd (upd (upd (upd m "e" (.ref ta)) "ne" (.int 2 t3)) "u" (.int u t1)) "v" (.int v t2)) "dd" (.ref dd) "attr" = some (.ref d) := upd_other (by decide) (upd_other (by decide) (upd_other (by decide) (upd_other (by decide) (upd_other (by decide) hm2))))
      have hU : upd (upd (upd (upd (upd m "e" (.ref ta)) "ne" (.int 2 t3)) "u" (.int u t1)) "v" (.int v t2)) "dd" (.ref dd) "u" = some (.int u t1) := upd_other (by decide) (upd_other (by decide) (upd_same _ _ _))
      have hV : upd (upd (upd (upd (upd m "e" (.ref ta)) "ne" (.int 2 t3)) "u" (.int u t1)) "v" (.int v t2)) "dd" (.ref dd) "v" = some (.int v t2) := upd_other (by decide) (upd_same _ _ _)
      have hD : upd (upd (upd (upd (upd m "e" (.ref ta)) "ne" (.int 2 t3)) "u" (.int u t1)) "v" (.int v t2)) "dd" (.ref dd) "dd" = some (.ref dd) := upd_same _ _ _
      have O17 := O16.to (qs := (L, IsNs (upd (upd (upd (upd (upd m "e" (.ref ta)) "ne" (.int 2 t3)) "u" (.int u t1)) "v" (.int v t2)) "dd" (.ref dd))) :: (dd, IsD prog w []) :: (d, IsD prog w []) :: (I, IsLI el (i + 1)) :: (g, IsO (plainObj 814 (some gd) #[])) :: (gd, IsS prog w (kvsD gg nd od pd)) :: (nd, IsD prog w (N.map fun u => (u, .ref (f u)))) :: (od, IsD prog w (N.map fun u => (u, .ref (ra u)))) :: (pd, IsD prog w (N.map fun u => (u, .ref (pa u)))) :: (el, IsL (es.map fun e => .ref e.1)) :: (efam (es.drop (i + 1)) ++ (rfam prog w rk ra N ++ (dfam prog w D ++ (fam (fun _ => IsDv prog w N) pa N ++ ps)))))
      generalize upd (upd (upd (upd (upd m "e" (.ref ta)) "ne" (.int 2 t3)) "u" (.int u t1)) "v" (.int v t2)) "dd" (.ref dd) = m5 at hS hA hU hV hD O17
      refine wpAny_execs_cons (wpAny_If (wpAny_isTrue_Compare1 (r_ld O17 (Attribute_any_ (r_ld O17 ?_ (hv := hS))) (hv := hU))))
      refine r_attr X O17 (fun s18 O18 => ?_) (hv := rfl)
      refine r_notin (d := od) X O18 (fun s19 O19 => ?_)
      rw [vAt_isSome (f := fun u => .ref (ra u)), decide_eq_true hu]
      refine wpAny_truthy_bool (wpAny_execs_nil ?_)
      refine wpAny_execs_cons (wpAny_If (wpAny_isTrue_Compare1 (r_ld O19 (Attribute_any_ (r_ld O19 ?_ (hv := hS))) (hv := hV))))
      refine r_attr X O19 (fun s20 O20 => ?_) (hv := rfl)
      refine r_notin (d := od) X O20 (fun s21 O21 => ?_)
      rw [vAt_isSome (f := fun u => .ref (ra u)), decide_eq_true hv]
      refine wpAny_truthy_bool (wpAny_execs_nil ?_)
      refine wpAny_execs_cons (wpAny_Assign_Name (methodCall_KW (Subscript_ (Attribute_any_ (r_ld O21 ?_ (hv := hS))))))
      refine r_attr X O21 (fun s22 O22 => ?_) (hv := rfl)
      refine r_ld O22 ?_ (hv := hU)
      refine r_sub (d := od) O22 (fun s23 O23 => ?_) (vAt_some (f := fun u => .ref (ra u)) hu)
      obtain ⟨q, hq1, hq2⟩ := pick_fam1 (P := fun u => IsD prog w (rk u)) (ra := ra) hn hu
      refine r_methGetD O23 ?_ (.there (.there (.there (.there (.there (.there (.there (.there (.there (.there (.right (.left hq1))))))))))))
      refine callWith_method1 (spliced_more (r_ld O23 (spliced_more (methodCall_KW (r_ld O23 ?_ (hv := hS)))) (hv := hV)))
      refine r_methV X O23 (fun s24 O24 => ?_) (by repeat (first | exact Pick.here | apply Pick.there | apply Pick.right)) (by repeat (first | exact Pick.here | apply Pick.there | apply Pick.right)) rfl
      refine callWith_type0 (r_dict0 O24 fun b s25 O25 => spliced_none ?_)
      refine r_get2 X O25 (fun s26 O26 => ?_) (.there (.there (.there (.there (.there (.there (.there (.there (.there (.there (.there (.right (.left hq1)))))))))))))
      obtain ⟨a, ha, hae⟩ := hok.got (u := u) (v := v) (b := b)
      rw [hae]
      refine r_st O26 (fun s27 O27 => ?_) (hp := .there .here)
      have hS6 : upd m5 "datadict" (.ref a) "self" = some (.ref g) := upd_other (by decide) hS
      have hA6 : upd m5 "datadict" (.ref a) "attr" = some (.ref d) := upd_other (by decide) hA
      have hU6 : upd m5 "datadict" (.ref a) "u" = some (.int u t1) := upd_other (by decide) hU
      have hV6 : upd m5 "datadict" (.ref a) "v" = some (.int v t2) := upd_other (by decide) hV
      have hD6 : upd m5 "datadict" (.ref a) "dd" = some (.ref dd) := upd_other (by decide) hD
      have hX6 : upd m5 "datadict" (.ref a) "datadict" = some (.ref a) := upd_same _ _ _
      generalize upd m5 "datadict" (.ref a) = m6 at hS6 hA6 hU6 hV6 hD6 hX6 O27
      have O28 : Own σ ((L, IsNs m6) :: (dd, IsD prog w []) :: (d, IsD prog w []) :: (I, IsLI el (i + 1)) :: (g, IsO (plainObj 814 (some gd) #[])) :: (gd, IsS prog w (kvsD gg nd od pd)) :: (nd, IsD prog w (N.map fun u => (u, .ref (f u)))) :: (od, IsD prog w (N.map fun u => (u, .ref (ra u)))) :: (pd, IsD prog w (N.map fun u => (u, .ref (pa u)))) :: (el, IsL (es.map fun e => .ref e.1)) :: (efam (es.drop (i + 1)) ++ (rfam prog w rk ra N ++ (dfam prog w (b :: D) ++ (fam (fun _ => IsDv prog w N) pa N ++ ps))))) s27 :=
        Own.tailPerm (front := [(L, IsNs m6), (dd, IsD prog w []), (d, IsD prog w []), (I, IsLI el (i + 1)), (g, IsO (plainObj 814 (some gd) #[])), (gd, IsS prog w (kvsD gg nd od pd)), (nd, IsD prog w (N.map fun u => (u, .ref (f u)))), (od, IsD prog w (N.map fun u => (u, .ref (ra u)))), (pd, IsD prog w (N.map fun u => (u, .ref (pa u)))), (el, IsL (es.map fun e => .ref e.1))])
          (T := efam (es.drop (i + 1)) ++ (rfam prog w rk ra N ++ ((b, IsD prog w []) :: (dfam prog w D ++ (fam (fun _ => IsDv prog w N) pa N ++ ps))))) (O27.perm (.swap _ _ _)) perm_in3
      obtain ⟨pr, hpa⟩ := pick_d (prog := prog) (w := w) ha
      refine wpAny_execs_cons (wpAny_Expr_any (methodCall_KW (r_ld O28 ?_ (hv := hX6))))
      refine r_methUpdate O28 ?_ (.there (.there (.there (.there (.there (.there (.there (.there (.there (.there (.right (.right (.left hpa)))))))))))))
      refine callWith_method1 (spliced_more (r_ld O28 (spliced_none ?_) (hv := hA6)))
      refine r_updE X O28 (fun s29 O29 => ?_) (.there (.there (.there (.there (.there (.there (.there (.there (.there (.there (.right (.right (.left hpa))))))))))))) (.there (.there .here)) (by rw [sizeLine_eq]; simp)
      refine wpAny_execs_cons (wpAny_Expr_any (methodCall_KW (r_ld O29 ?_ (hv := hX6))))
      refine r_methUpdate O29 ?_ (.there (.there (.there (.there (.there (.there (.there (.there (.there (.there (.right (.right (.left hpa)))))))))))))
      refine callWith_method1 (spliced_more (r_ld O29 (spliced_none ?_) (hv := hD6)))
      refine r_updE X O29 (fun s30 O30 => ?_) (.there (.there (.there (.there (.there (.there (.there (.there (.there (.there (.right (.right (.left hpa))))))))))))) (.there .here) (by rw [sizeLine_eq]; simp)
      -- the first row
      refine wpAny_execs_cons (wpAny_Assign_Subscript (r_ld O30 (Subscript_ (Attribute_any_ (r_ld O30 ?_ (hv := hS6)))) (hv := hX6)))
      refine r_attr X O30 (fun s31 O31 => ?_) (hv := rfl)
      refine r_ld O31 ?_ (hv := hU6)
      refine r_sub (d := od) O31 (fun s32 O32 => ?_) (vAt_some (f := fun u => .ref (ra u)) hu)
      refine r_ld O32 ?_ (hv := hV6)
      have hlen := hok.len (u := u) (O32.nodupD (.there (.there (.there (.there (.there (.there (.there (.there (.there (.there (.right (.left hq1)))))))))))))
      refine r_setItem (d := ra u) O32 (fun s33 O33 => ?_) (.there (.there (.there (.there (.there (.there (.there (.there (.there (.there (.right (.left hq1)))))))))))) (by rw [sizeLine_eq]; omega)
      have hq3 := hq2 (IsD prog w (stored (rk u) v (.ref a)))
      rw [rfam_up] at hq3
      have O34 : Own σ ((L, IsNs m6) :: (dd, IsD prog w []) :: (d, IsD prog w []) :: (I, IsLI el (i + 1)) :: (g, IsO (plainObj 814 (some gd) #[])) :: (gd, IsS prog w (kvsD gg nd od pd)) :: (nd, IsD prog w (N.map fun u => (u, .ref (f u)))) :: (od, IsD prog w (N.map fun u => (u, .ref (ra u)))) :: (pd, IsD prog w (N.map fun u => (u, .ref (pa u)))) :: (el, IsL (es.map fun e => .ref e.1)) :: (efam (es.drop (i + 1)) ++ (rfam prog w (up1 rk u (stored (rk u) v (.ref a))) ra N ++ (dfam prog w (b :: D) ++ (fam (fun _ => IsDv prog w N) pa N ++ ps))))) s33 :=
        Own.tailPerm (front := [(L, IsNs m6), (dd, IsD prog w []), (d, IsD prog w []), (I, IsLI el (i + 1)), (g, IsO (plainObj 814 (some gd) #[])), (gd, IsS prog w (kvsD gg nd od pd)), (nd, IsD prog w (N.map fun u => (u, .ref (f u)))), (od, IsD prog w (N.map fun u => (u, .ref (ra u)))), (pd, IsD prog w (N.map fun u => (u, .ref (pa u)))), (el, IsL (es.map fun e => .ref e.1))]) O33 (perm_in4 hq3)
      have hok1 := rowsOk_put (hok.more fun x hx => .tail b hx) ha hu hv
      generalize up1 rk u (stored (rk u) v (.ref a)) = rk1 at hok1 O34
      -- the other way
      refine wpAny_execs_cons (wpAny_Assign_Subscript (r_ld O34 (Subscript_ (Attribute_any_ (r_ld O34 ?_ (hv := hS6)))) (hv := hX6)))
      refine r_attr X O34 (fun s35 O35 => ?_) (hv := rfl)
      refine r_ld O35 ?_ (hv := hV6)
      refine r_sub (d := pd) O35 (fun s36 O36 => ?_) (vAt_some (f := fun u => .ref (pa u)) hv)
      refine r_ld O36 ?_ (hv := hU6)
      obtain ⟨q', hq1', hq2'⟩ := pick_fam1 (P := fun _ => IsDv prog w N) (ra := pa) hn hv
      obtain ⟨pk, hpk, O36⟩ := O36.openDv ((.there (.there (.there (.there (.there (.there (.there (.there (.there (.there (.right (.right (.right (.left hq1')))))))))))))))
      have hlen' := Nat.le_trans (by have := nodup_len (O36.nodupD .here) hpk; rwa [List.length_map] at this) hz
      refine r_setItem (d := pa v) O36 (fun s37 O37 => ?_) .here (by rw [sizeLine_eq]; omega)
      have O37 := O37.imp (P' := IsDv prog w N) fun o ho => ⟨_, ho, fun x hx => (mem_keys_stored.mp hx).elim (fun e => e ▸ hu) (hpk x)⟩
      have hq3' := hq2' (IsDv prog w N)
      have hcol : fam (fun x => if x = v then IsDv prog w N else IsDv prog w N) pa N = fam (fun _ => IsDv prog w N) pa N := by simp
      rw [hcol] at hq3'
      have O38 : Own σ ((L, IsNs m6) :: (dd, IsD prog w []) :: (d, IsD prog w []) :: (I, IsLI el (i + 1)) :: (g, IsO (plainObj 814 (some gd) #[])) :: (gd, IsS prog w (kvsD gg nd od pd)) :: (nd, IsD prog w (N.map fun u => (u, .ref (f u)))) :: (od, IsD prog w (N.map fun u => (u, .ref (ra u)))) :: (pd, IsD prog w (N.map fun u => (u, .ref (pa u)))) :: (el, IsL (es.map fun e => .ref e.1)) :: (efam (es.drop (i + 1)) ++ (rfam prog w rk1 ra N ++ (dfam prog w (b :: D) ++ (fam (fun _ => IsDv prog w N) pa N ++ ps))))) s37 :=
        Own.tailPerm (front := [(L, IsNs m6), (dd, IsD prog w []), (d, IsD prog w []), (I, IsLI el (i + 1)), (g, IsO (plainObj 814 (some gd) #[])), (gd, IsS prog w (kvsD gg nd od pd)), (nd, IsD prog w (N.map fun u => (u, .ref (f u)))), (od, IsD prog w (N.map fun u => (u, .ref (ra u)))), (pd, IsD prog w (N.map fun u => (u, .ref (pa u)))), (el, IsL (es.map fun e => .ref e.1))]) O37 (perm_in5 hq3')
      have hti : es.take (i + 1) = es.take i ++ [(ta, u, v)] := by rw [List.take_add_one, List.getElem?_eq_getElem hlt, hee]; rfl
      have O39 := (O38.to (qs := (nd, IsD prog w (N.map fun u => (u, .ref (f u)))) :: (I, IsLI el (i + 1)) :: (L, IsNs m6) :: (d, IsD prog w []) :: (g, IsO (plainObj 814 (some gd) #[])) :: (gd, IsS prog w (kvsD gg nd od pd)) :: (od, IsD prog w (N.map fun u => (u, .ref (ra u)))) :: (pd, IsD prog w (N.map fun u => (u, .ref (pa u)))) :: (el, IsL (es.map fun e => .ref e.1)) :: (efam (es.drop (i + 1)) ++ (rfam prog w rk1 ra N ++ (dfam prog w (b :: D) ++ (fam (fun _ => IsDv prog w N) pa N ++ ps)))))).imp (P' := IsDK prog w N) fun o ho => ⟨_, ho⟩
      refine wpAny_execs_nil ⟨es.length - (i + 1), by omega, i + 1, m6, _, b :: D, rfl, hlt, hS6, hA6, by rw [hti]; exact hok1.iff fun x y => adjD_snoc, ?_⟩
      exact O39.to (qs := (I, IsLI el (i + 1)) :: (L, IsNs m6) :: (d, IsD prog w []) :: (g, IsO (plainObj 814 (some gd) #[])) :: (gd, IsS prog w (kvsD gg nd od pd)) :: (nd, IsDK prog w N) :: (od, IsD prog w (N.map fun u => (u, .ref (ra u)))) :: (pd, IsD prog w (N.map fun u => (u, .ref (pa u)))) :: (el, IsL (es.map fun e => .ref e.1)) :: (efam (es.drop (i + 1)) ++ (rfam prog w rk1 ra N ++ (dfam prog w (b :: D) ++ (fam (fun _ => IsDv prog w N) pa N ++ ps)))))
    · have hi' : i = es.length := by omega
      subst hi'
      rw [List.take_length] at hok
      rw [List.drop_length] at O3
      refine r_endL (vs := es.map fun e => Value.ref e.1) O3 hr.hh (List.getElem?_eq_none (by rw [List.length_map]; exact Nat.le_refl _)) (fun s4 O4 => ?_) (by repeat (first | exact Pick.here | apply Pick.there | apply Pick.right))
      refine wpAny_execs_nil (wpAny_execs_nil (h rk s4 hok.keys ?_))
      have O5 := O4.to (qs := (g, IsO (plainObj 814 (some gd) #[])) :: (gd, IsS prog w (kvsD gg nd od pd)) :: (nd, IsDK prog w N) :: (od, IsD prog w (N.map fun u => (u, .ref (ra u)))) :: (rfam prog w rk ra N ++ (dfam prog w D ++ (fam (fun _ => IsDv prog w N) pa N ++ ps))))
      exact Own.dropMid (F := (g, IsO (plainObj 814 (some gd) #[])) :: (gd, IsS prog w (kvsD gg nd od pd)) :: (nd, IsDK prog w N) :: (od, IsD prog w (N.map fun u => (u, .ref (ra u)))) :: rfam prog w rk ra N) (Own.dropMid (F := (g, IsO (plainObj 814 (some gd) #[])) :: (gd, IsS prog w (kvsD gg nd od pd)) :: (nd, IsDK prog w N) :: (od, IsD prog w (N.map fun u => (u, .ref (ra u)))) :: rfam prog w rk ra N) O5)
  · exact O2.to (qs := (I, IsLI el 0) :: (L, IsNs _) :: (d, IsD prog w []) :: (g, IsO (plainObj 814 (some gd) #[])) :: (gd, IsS prog w (kvsD gg nd od pd)) :: (nd, IsDK prog w N) :: (od, IsD prog w (N.map fun u => (u, .ref (ra u)))) :: (pd, IsD prog w (N.map fun u => (u, .ref (pa u)))) :: (el, IsL (es.map fun e => .ref e.1)) :: (efam es ++ (fam (fun _ => IsD prog w []) ra N ++ (fam (fun _ => IsDv prog w N) pa N ++ ps))))
end
end Mine
end

-- Bp
section
namespace Mine
abbrev Ent := Int × Int × List Int
def entAt (P : List Ent) (k : Int) : Option (Int × List Int) := (P.find? fun e => e.1 = k).map (·.2)
def grow (P : List Ent) (k v : Int) : List Ent := P.map fun e => if e.1 = k then (e.1, e.2.1, e.2.2 ++ [v]) else e
def bstep (lvl v : Int) (st : List Ent × List Int) (k : Int) : List Ent × List Int :=
  match entAt st.1 k with
  | none => (st.1 ++ [(k, lvl, [v])], st.2 ++ [k])
  | some e => if e.1 = lvl then (grow st.1 k v, st.2) else st
def bnode (row : Int → List Int) (lvl : Int) (st : List Ent × List Int) (v : Int) : List Ent × List Int := (row v).foldl (bstep lvl v) st
def bturn (row : Int → List Int) (lvl : Int) (P : List Ent) (this : List Int) : List Ent × List Int := this.foldl (bnode row lvl) (P, [])
def cutsAt (cut : Option Int) (lvl : Int) : Bool := match cut with
  | none => false
  | some c => c != 0 && decide (c ≤ lvl)
def bfs (row : Int → List Int) (cut : Option Int) : Nat → Int → List Ent → List Int → List Ent
  | 0, _, P, _ => P
  | _ + 1, _, P, [] => P
  | n + 1, lvl, P, this => let st := bturn row (lvl + 1) P this; if cutsAt cut (lvl + 1) then st.1 else bfs row cut n (lvl + 1) st.1 st.2

theorem entAt_none {P : List Ent} {k : Int} (h : entAt P k = none) : ∀ e ∈ P, e.1 ≠ k := fun e he q => by
  unfold entAt at h
  rw [Option.map_eq_none_iff] at h
  have := List.find?_eq_none.mp h e he
  simp [q] at this
theorem entAt_some {P : List Ent} {k : Int} {e : Int × List Int} (h : entAt P k = some e) : (k, e.1, e.2) ∈ P := by
  unfold entAt at h
  obtain ⟨a, ha, rfl⟩ := Option.map_eq_some_iff.mp h
  have := List.find?_some ha
  simp at this
  subst this
  exact List.mem_of_find?_eq_some ha
theorem entAt_mem {P : List Ent} {k : Int} {e : Int × List Int} (hn : (P.map (·.1)).Nodup) (h : (k, e.1, e.2) ∈ P) : entAt P k = some e := by
  induction P with
  | nil => cases h
  | cons q P ih =>
    unfold entAt
    rw [List.find?_cons]
    rw [List.map_cons, List.nodup_cons] at hn
    rcases List.mem_cons.mp h with rfl | h
    · simp
    · have : q.1 ≠ k := fun z => hn.1 (List.mem_map.mpr ⟨_, h, z.symm⟩)
      simp only [this, decide_false]
      exact ih hn.2 h
theorem grow_keys (P : List Ent) (k v : Int) : (grow P k v).map (·.1) = P.map (·.1) := by
  unfold grow
  rw [List.map_map]
  refine List.map_congr_left fun e _ => ?_
  simp only [Function.comp]
  split <;> rfl
theorem grow_lvls (P : List Ent) (k v : Int) : (grow P k v).map (fun e => (e.1, e.2.1)) = P.map fun e => (e.1, e.2.1) := by
  unfold grow
  rw [List.map_map]
  refine List.map_congr_left fun e _ => ?_
  simp only [Function.comp]
  split <;> rfl
theorem bstep_nodup {lvl v k : Int} {st : List Ent × List Int} (h : (st.1.map (·.1)).Nodup) : ((bstep lvl v st k).1.map (·.1)).Nodup := by
  unfold bstep
  split
  · rename_i hk
    rw [List.map_append]
    refine List.nodup_append.mpr ⟨h, by simp, ?_⟩
    intro a h1 b h2 e
    simp at h2
    subst h2 e
    obtain ⟨q, hq, rfl⟩ := List.mem_map.mp h1
    exact entAt_none hk q hq rfl
  · split
    · rw [grow_keys]; exact h
    · exact h
/-- all of a size, keys once -/
structure bok (st : List Ent × List Int) : Prop where
  nd : (st.1.map (·.1)).Nodup
  z1 : st.1.length ≤ 1000
  z2 : st.2.length ≤ 1000
  z3 : ∀ e ∈ st.1, e.2.2.length ≤ 1000
def okTurn (rowf : Int → List Int) (lvl : Int) (st : List Ent × List Int) (b : List Int) : Prop := ∀ a v c, b = a ++ v :: c → ∀ p q, rowf v = p ++ q → bok (p.foldl (bstep lvl v) (a.foldl (bnode rowf lvl) st))
def bokBfs (rowf : Int → List Int) (N : List Int) (cut : Option Int) : Nat → Int → List Ent → List Int → Prop
  | 0, _, _, _ => False
  | _ + 1, _, _, [] => True
  | n + 1, lvl, P, v :: vs => (v :: vs).length ≤ 1000 ∧ (∀ x ∈ v :: vs, x ∈ N) ∧ okTurn rowf (lvl + 1) (P, []) (v :: vs) ∧ (cutsAt cut (lvl + 1) = false → bokBfs rowf N cut n (lvl + 1) (bturn rowf (lvl + 1) P (v :: vs)).1 (bturn rowf (lvl + 1) P (v :: vs)).2)
end Mine
end

-- Bw
section
open PySem PySem.W PyProof.Rows PySem.Calls
set_option Elab.async false
set_option maxRecDepth 100000
set_option maxHeartbeats 1000000
set_option linter.unusedVariables false
namespace Mine
noncomputable def predF (w : World) : {p : Value × Option Addr × FuncData × Array (Option Value) // (KF w).lookup 66 = some ⟨p.1, p.2.1, .func p.2.2.1, p.2.2.2⟩} := ⟨(_, _, _, _), rfl⟩
noncomputable def predB (w : World) : {p : List Stmt × Expr × List Stmt × Pos × List Stmt // (predF w).1.2.2.1.body = .stmts (p.1 ++ .While p.2.1 p.2.2.1 [] p.2.2.2.1 :: p.2.2.2.2)} := ⟨([_, _, _, _, _], _, _, _, [_]), rfl⟩
noncomputable def predT (w : World) : {p : List Stmt × Expr × Expr × List Stmt × Pos × List Stmt // (predB w).1.2.2.1 = p.1 ++ .For p.2.1 p.2.2.1 p.2.2.2.1 [] p.2.2.2.2.1 :: p.2.2.2.2.2} := ⟨([_, _, _], _, _, _, _, [_]), rfl⟩
noncomputable def predI (w : World) : {p : Expr × Expr × List Stmt × Pos // (predT w).1.2.2.2.1 = [.For p.1 p.2.1 p.2.2.1 [] p.2.2.2]} := ⟨(_, _, _, _), rfl⟩
noncomputable abbrev predEnv (w : World) (L : Addr) : Env := callEnv (predF w).1.2.2.1 L 66

abbrev bfam (la : Int → Addr) (P : List Ent) : List HP := P.map fun e => (la e.1, IsI e.2.2)
abbrev bled (prog : Program) (w : World) (nl sd pd : Addr) (la : Int → Addr) (st : List Ent × List Int) (T : List HP) : List HP :=
  (nl, IsI st.2) :: (sd, IsDI prog w (st.1.map fun e => (e.1, e.2.1))) :: (pd, IsD prog w (st.1.map fun e => (e.1, .ref (la e.1)))) :: (bfam la st.1 ++ T)

section
variable {prog : Program} {w : World} {A : Around} {E : Value → Shared → Prop} {σ s : Shared} {T r r' r'' : List HP} {mg mb m : Str → Option Value} {L nl sd pd : Addr} {la : Int → Addr} {st : List Ent × List Int} {k v lvl : Int} {tk tv tl : Tok} {n : Nat}

theorem intAt_ents {P : List Ent} : intAt (P.map fun e => (e.1, e.2.1)) k = (entAt P k).map (·.1) := by
  unfold intAt entAt
  induction P with
  | nil => rfl
  | cons e P ih =>
    rw [List.map_cons, List.find?_cons, List.find?_cons]
    by_cases h : e.1 = k
    · simp [h]
    · simp only [h, decide_false]; exact ih
theorem vAt_ents {P : List Ent} : valueAt (P.map fun e => (e.1, (.ref (la e.1) : Value))) k = (entAt P k).map fun _ => .ref (la k) := by
  rw [valueAt_map (fun e : Ent => e.1) (fun e => .ref (la e.1))]
  unfold entAt
  cases hf : P.find? _ with
  | none => rfl
  | some e =>
    have := List.find?_some hf
    simp at this
    simp [this]
theorem bfam_new {P : List Ent} {a : Addr} (he : entAt P k = none) (xs : List Int) : bfam (fun x => if x = k then a else la x) (P ++ [(k, lvl, xs)]) = bfam la P ++ [(a, IsI xs)] := by
  unfold bfam
  rw [List.map_append]
  congr 1
  · refine List.map_congr_left fun e hm => ?_
    simp [entAt_none he e hm]
  · simp
theorem bpd_new {P : List Ent} {a : Addr} (he : entAt P k = none) (xs : List Int) : stored (P.map fun e => (e.1, (.ref (la e.1) : Value))) k (.ref a) = (P ++ [(k, lvl, xs)]).map fun e => (e.1, (.ref ((fun x => if x = k then a else la x) e.1) : Value)) := by
  rw [stored_absent (by rw [vAt_ents, he]; rfl), List.map_append]
  congr 1
  · refine List.map_congr_left fun e hm => ?_
    simp [entAt_none he e hm]
  · simp

theorem pick_fam {P : List Ent} {e : Int × List Int} (hnd : (P.map (·.1)).Nodup) (he : entAt P k = some e) : ∃ r, Pick (la k) (IsI e.2) (bfam la P) r ∧ ((la k, IsI (e.2 ++ [v])) :: r).Perm (bfam la (grow P k v)) := by
  obtain ⟨l1, l2, rfl⟩ := List.append_of_mem (entAt_some he)
  have hg : grow (l1 ++ (k, e.1, e.2) :: l2) k v = l1 ++ (k, e.1, e.2 ++ [v]) :: l2 := by
    rw [List.map_append, List.map_cons] at hnd
    obtain ⟨_, h2, h3⟩ := List.nodup_append.mp hnd
    obtain ⟨h4, h5⟩ := List.nodup_cons.mp h2
    have a1 : ∀ l : List Ent, (∀ q ∈ l, q.1 ≠ k) → grow l k v = l := fun l hl => by
      unfold grow
      conv => rhs; rw [← List.map_id l]
      exact List.map_congr_left fun q hq => by simp [hl q hq]
    unfold grow at a1 ⊢
    rw [List.map_append, List.map_cons, a1 l1 fun q hq z => h3 _ (List.mem_map.mpr ⟨q, hq, rfl⟩) _ (.head _) z, a1 l2 fun q hq z => h4 (List.mem_map.mpr ⟨q, hq, z⟩)]
    simp
  refine ⟨bfam la l1 ++ bfam la l2, ?_, ?_⟩
  · unfold bfam
    rw [List.map_append, List.map_cons]
    exact .right .here
  · rw [hg]
    unfold bfam
    rw [List.map_append, List.map_cons]
    exact List.perm_middle.symm
theorem grow_pd (P : List Ent) (f : Int → Value) : ((grow P k v).map fun e => (e.1, f e.1)) = P.map fun e => (e.1, f e.1) := by
  have := congrArg (List.map fun x => (x, f x)) (grow_keys P k v)
  rwa [List.map_map, List.map_map] at this

theorem b_body {Q : Flow → Shared → Prop} (X : PF (KF w) σ mg mb) (O : Own σ ((L, IsNs m) :: bled prog w nl sd pd la st T) s)
    (hw : m "w" = some (.int k tk)) (hv : m "v" = some (.int v tv)) (hl : m "level" = some (.int lvl tl)) (hs : m "seen" = some (.ref sd)) (hp : m "pred" = some (.ref pd)) (hn : m "nextlevel" = some (.ref nl))
    (ok : bok st)
    (h : ∀ la' s', Own σ ((L, IsNs m) :: bled prog w nl sd pd la' (bstep lvl v st k) T) s' → Q .next s') :
    wpAny (model prog w) A (execs (predI w).1.2.2.1 (predEnv w L)) Q E s := by
  refine wpAny_execs_cons (wpAny_If (wpAny_isTrue_Compare1 (r_ld O (r_ld O ?_ (hv := hs)) (hv := hw))))
  refine r_notinDI X O (fun s1 O1 => ?_) (.there (.there .here))
  refine wpAny_truthy_bool ?_
  rw [intAt_ents]
  obtain ⟨hnd, hz, hz2, hz3⟩ := ok
  cases he : entAt st.1 k with
  | none =>
    have hi : intAt (st.1.map fun e => (e.1, e.2.1)) k = none := by rw [intAt_ents, he]; rfl
    refine wpAny_execs_cons (wpAny_Assign_Subscript (r_List (spliced_more (r_ld O1 (spliced_none (r_newI O1 (.cons v tv .nil) fun a s2 O2 => ?_)) (hv := hv)))))
    refine r_ld O2 (r_ld O2 ?_ (hv := hw)) (hv := hp)
    refine r_setItem O2 (fun s3 O3 => ?_) (.there (.there (.there (.there .here)))) (by rw [List.length_map, sizeLine_eq]; omega)
    rw [bpd_new he [v] (lvl := lvl)] at O3
    refine wpAny_execs_cons (wpAny_Assign_Subscript (r_ld O3 (r_ld O3 (r_ld O3 ?_ (hv := hw)) (hv := hs)) (hv := hl)))
    refine r_setDI O3 (fun s4 O4 => ?_) hi (.there (.there (.there (.there .here)))) (by rw [List.length_map, sizeLine_eq]; omega)
    refine wpAny_execs_cons (wpAny_Expr_any (methodCall_KW (r_ld O4 ?_ (hv := hn))))
    refine r_methAppend O4 ?_ (.there (.there (.there (.there .here))))
    refine callWith_method1 (spliced_more (r_ld O4 (spliced_none ?_) (hv := hw)))
    refine r_appendI O4 (fun s5 O5 => ?_) (.there (.there (.there (.there .here)))) (by rw [sizeLine_eq]; omega)
    refine wpAny_execs_nil (wpAny_execs_nil ?_)
    have hb : bstep lvl v st k = (st.1 ++ [(k, lvl, [v])], st.2 ++ [k]) := by unfold bstep; rw [he]
    rw [hb] at h
    refine h (fun x => if x = k then a else la x) s5 ?_
    have O6 := O5.to (qs := (a, IsI [v]) :: (L, IsNs m) :: (nl, IsI (st.2 ++ [k])) :: (sd, _) :: (pd, _) :: (bfam la st.1 ++ T))
    have O7 := Own.tailPerm (front := [(L, IsNs m), (nl, IsI (st.2 ++ [k])), (sd, _), (pd, _)]) (T := bfam la st.1 ++ [(a, IsI [v])] ++ T) O6 (by rw [List.append_assoc]; exact List.perm_middle.symm)
    show Own σ ((L, IsNs m) :: (nl, IsI (st.2 ++ [k])) :: (sd, IsDI prog w ((st.1 ++ [(k, lvl, [v])]).map fun e => (e.1, e.2.1))) :: (pd, _) :: (bfam (fun x => if x = k then a else la x) (st.1 ++ [(k, lvl, [v])]) ++ T)) s5
    rw [bfam_new he [v], List.map_append]
    exact O7
  | some e =>
    have hi : intAt (st.1.map fun e => (e.1, e.2.1)) k = some e.1 := by rw [intAt_ents, he]; rfl
    refine wpAny_execs_cons (wpAny_If (wpAny_isTrue_Compare1 (Subscript_ (r_ld O1 (r_ld O1 ?_ (hv := hw)) (hv := hs)))))
    refine r_subDI O1 (fun t s2 O2 => ?_) hi (.there (.there .here))
    refine r_ld O2 (r_eq (wpAny_truthy_bool ?_)) (hv := hl)
    by_cases hel : e.1 = lvl
    · rw [show (e.1 == lvl) = true from by simp [hel]]
      refine wpAny_execs_cons (wpAny_Expr_any (methodCall_KW (Subscript_ (r_ld O2 (r_ld O2 ?_ (hv := hw)) (hv := hp)))))
      refine r_sub O2 (fun s3 O3 => ?_) (by rw [vAt_ents, he]; rfl) (.there (.there (.there .here)))
      obtain ⟨q, hq1, hq2⟩ := pick_fam (la := la) (v := v) hnd he
      have hpk : Pick (la k) (IsI e.2) ((L, IsNs m) :: bled prog w nl sd pd la st T) ((L, IsNs m) :: (nl, IsI st.2) :: (sd, _) :: (pd, _) :: (q ++ T)) := .there (.there (.there (.there (.left hq1))))
      refine r_methAppend O3 ?_ hpk
      refine callWith_method1 (spliced_more (r_ld O3 (spliced_none ?_) (hv := hv)))
      refine r_appendI O3 (fun s4 O4 => ?_) hpk ?_
      · refine wpAny_execs_nil (wpAny_execs_nil (wpAny_execs_nil ?_))
        have hb : bstep lvl v st k = (grow st.1 k v, st.2) := by unfold bstep; rw [he]; exact if_pos hel
        rw [hb] at h
        refine h la s4 ?_
        show Own σ ((L, IsNs m) :: (nl, IsI st.2) :: (sd, IsDI prog w ((grow st.1 k v).map fun e => (e.1, e.2.1))) :: (pd, IsD prog w ((grow st.1 k v).map fun e => (e.1, .ref (la e.1)))) :: (bfam la (grow st.1 k v) ++ T)) s4
        rw [grow_lvls, grow_pd (f := fun x => .ref (la x))]
        exact Own.tailPerm (front := [(L, IsNs m), (nl, IsI st.2), (sd, _), (pd, _)]) O4 (hq2.append_right T)
      · have := hz3 _ (entAt_some he); rw [sizeLine_eq]; simp only at this; omega
    · rw [show (e.1 == lvl) = false from by simp [hel]]
      refine wpAny_execs_nil (wpAny_execs_nil (wpAny_execs_nil ?_))
      have hb : bstep lvl v st k = st := by unfold bstep; rw [he]; exact if_neg hel
      rw [hb] at h
      exact h la s2 O2

theorem b_inner {R : Result → Shared → Prop} {I d : Addr} {kvs : List (Int × Value)} {ep i : Nat} {b : List Int} (X : PF (KF w) σ mg mb) (hh : A.handled = none) (O : Own σ ((I, IsKI d i kvs.length ep) :: (L, IsNs m) :: bled prog w nl sd pd la st T) s)
    (hd : Pick d (IsDe prog w kvs ep) T r)
    (hv : m "v" = some (.int v tv)) (hl : m "level" = some (.int lvl tl)) (hs : m "seen" = some (.ref sd)) (hp : m "pred" = some (.ref pd)) (hn : m "nextlevel" = some (.ref nl))
    (hi : (kvs.drop i).map (·.1) = b) (ok : ∀ a c, b = a ++ c → bok (a.foldl (bstep lvl v) st))
    (h : ∀ la' m' s', Own σ ((L, IsNs m') :: bled prog w nl sd pd la' (b.foldl (bstep lvl v) st) T) s' → (∀ x : Str, x ≠ "w" → m' x = m x) → R (.ok .next) s') :
    codeAny (model prog w) A (.forLoop (predI w).1.1 (.ref I) (predI w).1.2.2.1 [] (predEnv w L)) R s := by
  refine codeAny_forLoop (fun n s => ∃ (i : Nat) (la' : Int → Addr) (m' : Str → Option Value) (st' : List Ent × List Int) (b' : List Int), n = b'.length ∧ (kvs.drop i).map (·.1) = b' ∧ Own σ ((I, IsKI d i kvs.length ep) :: (L, IsNs m') :: bled prog w nl sd pd la' st' T) s ∧
      (∀ x : Str, x ≠ "w" → m' x = m x) ∧ b'.foldl (bstep lvl v) st' = b.foldl (bstep lvl v) st ∧ ∀ a c, b' = a ++ c → bok (a.foldl (bstep lvl v) st')) ?_ _ ⟨i, la, m, st, b, rfl, hi, O, fun _ _ => rfl, rfl, ok⟩
  rintro n s ⟨i, la, m', st', b', rfl, hi, O, hm, hfin, ok⟩
  have hdp : Pick d (IsDe prog w kvs ep) ((L, IsNs m') :: bled prog w nl sd pd la st' T) _ := .there (.there (.there (.there (.right hd))))
  cases b' with
  | nil =>
    refine r_endD O hh ?_ (fun s1 O1 => ?_) hdp
    · rw [List.map_eq_nil_iff, List.drop_eq_nil_iff] at hi
      exact List.getElem?_eq_none hi
    · refine wpAny_execs_nil (h la m' s1 ?_ hm)
      rw [← hfin]; exact O1
  | cons k b' =>
    have hlt : i < kvs.length := by
      rcases Nat.lt_or_ge i kvs.length with z | z
      · exact z
      · rw [List.drop_of_length_le z] at hi; cases hi
    rw [List.drop_eq_getElem_cons hlt, List.map_cons] at hi
    injection hi with hk hrest
    refine r_nextD O (k := k) (v := kvs[i].2) (by rw [List.getElem?_eq_getElem hlt]; cases hx : kvs[i]; rw [hx] at hk; cases hk; rfl) (fun t s1 O1 => ?_) hdp
    refine wpAny_assign_Name (r_st O1 (fun s2 O2 => ?_) (hp := .there .here))
    have O3 := O2.to (qs := (I, IsKI d (i + 1) kvs.length ep) :: (L, IsNs (upd m' "w" (.int k t))) :: (nl, IsI st'.2) :: (sd, _) :: (pd, _) :: (bfam la st'.1 ++ T))
    have O4 := Own.tailPerm (front := [(L, IsNs (upd m' "w" (.int k t))), (nl, IsI st'.2), (sd, _), (pd, _)]) (T := bfam la st'.1 ++ ((I, IsKI d (i + 1) kvs.length ep) :: T)) O3 List.perm_middle.symm
    have ne : ∀ {x : Str} {y : Value}, x ≠ "w" → m x = some y → upd m' "w" (.int k t) x = some y := fun hx hy => upd_other hx ((hm _ hx).trans hy)
    refine b_body X O4 (upd_same _ _ _) (ne (by decide) hv) (ne (by decide) hl) (ne (by decide) hs) (ne (by decide) hp) (ne (by decide) hn) (ok [] _ rfl) fun la'' s3 O5 => ?_
    refine ⟨b'.length, Nat.lt_succ_self _, i + 1, la'', upd m' "w" (.int k t), bstep lvl v st' k, b', rfl, hrest, ?_, fun x hx => (upd_other hx rfl).trans (hm x hx), hfin, fun a c e => ok (k :: a) c (by rw [e]; rfl)⟩
    refine O5.perm ?_
    show ((L, IsNs (upd m' "w" (.int k t))) :: (nl, _) :: (sd, _) :: (pd, _) :: (bfam la'' (bstep lvl v st' k).1 ++ ((I, IsKI d (i + 1) kvs.length ep) :: T))).Perm _
    exact (List.perm_middle (l₁ := (L, IsNs (upd m' "w" (.int k t))) :: (nl, _) :: (sd, _) :: (pd, _) :: bfam la'' (bstep lvl v st' k).1))
end
end Mine
end

-- Bw2
section
open PySem PySem.W PyProof.Rows PySem.Calls
set_option Elab.async false
set_option maxRecDepth 100000
set_option maxHeartbeats 1000000
set_option linter.unusedVariables false
namespace Mine
section
variable {prog : Program} {w : World} {A : Around} {E : Value → Shared → Prop} {σ s : Shared} {ps r r' r'' : List HP} {mg mb m : Str → Option Value} {L : Addr} {n : Nat}
/-- iteration over a row's view -/
theorem r_iterView {x dx d : Addr} {row : List (Int × Value)} {ep : Nat} {q : List HP} {Q : Value → Shared → Prop} (X : PF (KF w) σ mg mb) (O : Own σ ps s) (hr : Room A (n + 1)) (hL : Pick L (IsNs m) ps q)
    (h1 : Pick x (IsO (plainObj 120 (some dx) #[some (.ref d)])) ps r) (h2 : Pick dx (IsS prog w []) ps r') (h3 : Pick d (IsDe prog w row ep) ps r'')
    (h : ∀ I s', Own σ ((I, IsKI d 0 row.length ep) :: ps) s' → Q (.ref I) s') : wpAny (model prog w) A (pyIter (.ref x)) Q E s := by
  obtain ⟨od, hS, Ia⟩ := inst_dict O h1 h2
  refine owit_iter (f := 95) (O.fr hL) X.K Ia (by rfl) (by rfl) (wpAny_call ?_)
  refine atlas_iter X O hr h1 h2 h3 fun I s1 O1 => ?_
  obtain ⟨o, ho, hc, hd⟩ := O1.get .here
  refine wpAny_specialOf (T := "dict_keyiterator") ⟨o, ho, hc⟩ PySem.F.slot_dict_keyiterator_next.lookup ?_
  exact h I s1 O1
end

section
variable {prog : Program} {w : World} {A : Around} {E : Value → Shared → Prop} {σ s : Shared} {T r1 r2 r3 r4 r5 : List HP} {mg mb m : Str → Option Value} {L nl sd pd : Addr} {la : Int → Addr} {st : List Ent × List Int} {v lvl : Int} {tv tl : Tok} {n : Nat}
  {C cp cpd fn g gd od av ax : Addr} {nm : Str} {kvs : List (Str × Value)} {outer : List (Int × Value)} {rowf : Int → List Int}

/-- what a turn over the rows wants of the graph -/
structure GraphAt (prog : Program) (w : World) (T : List HP) (C g gd od av ax : Addr) (kvs : List (Str × Value)) (outer : List (Int × Value)) : Prop where
  h_g : ∃ r, Pick g (IsO (plainObj C (some gd) #[])) T r
  h_gd : ∃ r, Pick gd (IsS prog w kvs) T r
  h_av : ∃ r, Pick av (IsO (plainObj 142 (some ax) #[some (.ref od)])) T r
  h_ax : ∃ r, Pick ax (IsS prog w []) T r
  h_od : ∃ r, Pick od (IsD prog w outer) T r
  h_adj : valueAt kvs "adj" = some (.ref av)

def RowAt (prog : Program) (w : World) (T : List HP) (outer : List (Int × Value)) (v : Int) (xs : List Int) : Prop :=
  ∃ d row ep r, valueAt outer v = some (.ref d) ∧ Pick d (IsDe prog w row ep) T r ∧ row.map (·.1) = xs

theorem gc_item (G : GC C cp cpd fn nm) : findIn (KF w) (.ref C) "__getitem__" = some (some (.ref 481)) := by cases G <;> rfl

theorem b_vbody {Q : Flow → Shared → Prop} (G : GC C cp cpd fn nm) (X : PF (KF w) σ mg mb) (hr : Room A (n + 6)) (O : Own σ ((L, IsNs m) :: bled prog w nl sd pd la st T) s) (GA : GraphAt prog w T C g gd od av ax kvs outer) (RA : RowAt prog w T outer v (rowf v))
    (hG : m "G" = some (.ref g)) (hv : m "v" = some (.int v tv)) (hl : m "level" = some (.int lvl tl)) (hs : m "seen" = some (.ref sd)) (hp : m "pred" = some (.ref pd)) (hn : m "nextlevel" = some (.ref nl))
    (ok : ∀ a c, rowf v = a ++ c → bok (a.foldl (bstep lvl v) st))
    (h : ∀ la' m' s', Own σ ((L, IsNs m') :: bled prog w nl sd pd la' (bnode rowf lvl st v) T) s' → (∀ x : Str, x ≠ "w" → m' x = m x) → Q .next s') :
    wpAny (model prog w) A (execs (predT w).1.2.2.2.1 (predEnv w L)) Q E s := by
  obtain ⟨⟨_, hg⟩, ⟨_, hgd⟩, ⟨_, hav⟩, ⟨_, hax⟩, ⟨_, hod⟩, hadj⟩ := GA
  obtain ⟨d, row, ep, _, hd1, hd2, hd3⟩ := RA
  have up : ∀ {a P q}, Pick a P T q → Pick a P ((L, IsNs m) :: bled prog w nl sd pd la st T) ((L, IsNs m) :: (nl, _) :: (sd, _) :: (pd, _) :: (bfam la st.1 ++ q)) := fun z => .there (.there (.there (.there (.right z))))
  refine wpAny_execs_cons (wpAny_For (Subscript_ (r_ld O (r_ld O ?_ (hv := hv)) (hv := hG))))
  refine a_sub (f := 481) X O (wpAny_call ?_) (up hg) (up hgd) (gc_item G)
  refine getitem_next G X O (hr.in1.less (m := n + 5) (by omega)) (up hg) (up hgd) (up hav) (up hax) hadj (up hod) hd1 fun x dx s1 O1 => ?_
  refine r_iterView X O1 (hr.less (m := n + 1) (by omega)) (.there (.there .here)) .here (.there .here) (.there (.there (up hd2))) fun I s2 O2 => ?_
  refine b_inner (b := rowf v) X hr.hh (O2.to (qs := (I, _) :: (L, IsNs m) :: bled prog w nl sd pd la st T)) hd2 hv hl hs hp hn (by simpa using hd3) ok fun la' m' s3 O3 hm => ?_
  exact wpAny_execs_nil (h la' m' s3 O3 hm)

theorem b_outer {R : Result → Shared → Prop} {I ta : Addr} {this b : List Int} {j : Nat} (G : GC C cp cpd fn nm) (X : PF (KF w) σ mg mb) (hr : Room A (n + 6)) (O : Own σ ((I, IsLI ta j) :: (L, IsNs m) :: bled prog w nl sd pd la st T) s)
    (GA : GraphAt prog w T C g gd od av ax kvs outer) (RA : ∀ v ∈ b, RowAt prog w T outer v (rowf v)) (hta : Pick ta (IsI this) T r1)
    (hG : m "G" = some (.ref g)) (hl : m "level" = some (.int lvl tl)) (hs : m "seen" = some (.ref sd)) (hp : m "pred" = some (.ref pd)) (hn : m "nextlevel" = some (.ref nl))
    (hj : this.drop j = b) (ok : ∀ a v c, b = a ++ v :: c → ∀ p q, rowf v = p ++ q → bok (p.foldl (bstep lvl v) (a.foldl (bnode rowf lvl) st)))
    (h : ∀ la' m' s', Own σ ((L, IsNs m') :: bled prog w nl sd pd la' (b.foldl (bnode rowf lvl) st) T) s' → (∀ x : Str, x ≠ "w" → x ≠ "v" → m' x = m x) → R (.ok .next) s') :
    codeAny (model prog w) A (.forLoop (predT w).1.2.1 (.ref I) (predT w).1.2.2.2.1 [] (predEnv w L)) R s := by
  refine codeAny_forLoop (fun n s => ∃ (i : Nat) (la' : Int → Addr) (m' : Str → Option Value) (st' : List Ent × List Int) (b' : List Int), n = b'.length ∧ this.drop i = b' ∧ Own σ ((I, IsLI ta i) :: (L, IsNs m') :: bled prog w nl sd pd la' st' T) s ∧
      (∀ x : Str, x ≠ "w" → x ≠ "v" → m' x = m x) ∧ b'.foldl (bnode rowf lvl) st' = b.foldl (bnode rowf lvl) st ∧ (∀ v ∈ b', v ∈ b) ∧ ∀ a v c, b' = a ++ v :: c → ∀ p q, rowf v = p ++ q → bok (p.foldl (bstep lvl v) (a.foldl (bnode rowf lvl) st'))) ?_ _ ⟨j, la, m, st, b, rfl, hj, O, fun _ _ _ => rfl, rfl, fun _ z => z, ok⟩
  rintro n s ⟨i, la, m', st', b', rfl, hi, O, hm, hfin, hsub, ok⟩
  have hdp : Pick ta (IsI this) ((L, IsNs m') :: bled prog w nl sd pd la st' T) _ := .there (.there (.there (.there (.right hta))))
  cases b' with
  | nil =>
    refine r_endI O hr.hh ?_ (fun s1 O1 => ?_) hdp
    · rw [List.drop_eq_nil_iff] at hi
      exact List.getElem?_eq_none hi
    · refine wpAny_execs_nil (h la m' s1 ?_ hm)
      rw [← hfin]; exact O1
  | cons k b' =>
    have hlt : i < this.length := by
      rcases Nat.lt_or_ge i this.length with z | z
      · exact z
      · rw [List.drop_of_length_le z] at hi; cases hi
    rw [List.drop_eq_getElem_cons hlt] at hi
    injection hi with hk hrest
    refine r_nextI O (x := k) (by rw [List.getElem?_eq_getElem hlt, hk]) (fun t s1 O1 => ?_) hdp
    refine wpAny_assign_Name (r_st O1 (fun s2 O2 => ?_) (hp := .there .here))
    have O3 := O2.to (qs := (I, IsLI ta (i + 1)) :: (L, IsNs (upd m' "v" (.int k t))) :: (nl, IsI st'.2) :: (sd, _) :: (pd, _) :: (bfam la st'.1 ++ T))
    have O4 := Own.tailPerm (front := [(L, IsNs (upd m' "v" (.int k t))), (nl, IsI st'.2), (sd, _), (pd, _)]) (T := bfam la st'.1 ++ ((I, IsLI ta (i + 1)) :: T)) O3 List.perm_middle.symm
    have ne : ∀ {x : Str} {y : Value}, x ≠ "w" → x ≠ "v" → m x = some y → upd m' "v" (.int k t) x = some y := fun hw hx hy => upd_other hx ((hm _ hw hx).trans hy)
    have GA' : GraphAt prog w ((I, IsLI ta (i + 1)) :: T) C g gd od av ax kvs outer := by
      obtain ⟨⟨_, h1⟩, ⟨_, h2⟩, ⟨_, h3⟩, ⟨_, h4⟩, ⟨_, h5⟩, h6⟩ := GA
      exact ⟨⟨_, .there h1⟩, ⟨_, .there h2⟩, ⟨_, .there h3⟩, ⟨_, .there h4⟩, ⟨_, .there h5⟩, h6⟩
    have RA' : RowAt prog w ((I, IsLI ta (i + 1)) :: T) outer k (rowf k) := by
      obtain ⟨d, row, ep, _, h1, h2, h3⟩ := RA k (hsub _ (.head _))
      exact ⟨d, row, ep, _, h1, .there h2, h3⟩
    refine b_vbody G X hr O4 GA' RA' (ne (by decide) (by decide) hG) (upd_same _ _ _) (ne (by decide) (by decide) hl) (ne (by decide) (by decide) hs) (ne (by decide) (by decide) hp) (ne (by decide) (by decide) hn) (ok [] k b' rfl) fun la'' m'' s3 O5 hm'' => ?_
    refine ⟨b'.length, Nat.lt_succ_self _, i + 1, la'', m'', bnode rowf lvl st' k, b', rfl, hrest, ?_, fun x hw hx => ((hm'' x hw).trans (upd_other hx rfl)).trans (hm x hw hx), hfin, fun v z => hsub v (.tail _ z), fun a v c e => ok (k :: a) v c (by rw [e]; rfl)⟩
    refine O5.perm ?_
    show ((L, IsNs m'') :: (nl, _) :: (sd, _) :: (pd, _) :: (bfam la'' (bnode rowf lvl st' k).1 ++ ((I, IsLI ta (i + 1)) :: T))).Perm _
    exact (List.perm_middle (l₁ := (L, IsNs m'') :: (nl, _) :: (sd, _) :: (pd, _) :: bfam la'' (bnode rowf lvl st' k).1))
end
end Mine
end

-- Bw3
section
open PySem PySem.W PyProof.Rows PySem.Calls
set_option Elab.async false
set_option maxRecDepth 100000
set_option maxHeartbeats 1000000
set_option linter.unusedVariables false
namespace Mine
inductive CutV : Option Int → Value → Prop
  | none : CutV none .none
  | int (c : Int) (t : Tok) : CutV (some c) (.int c t)
section
variable {prog : Program} {w : World} {A : Around} {E : Value → Shared → Prop} {σ s : Shared} {T r1 r2 r3 r4 r5 : List HP} {mg mb m : Str → Option Value} {L nl sd pd : Addr} {la : Int → Addr} {st : List Ent × List Int} {v lvl : Int} {tv tl : Tok} {n : Nat}
  {C cp cpd fn g gd od av ax : Addr} {nm : Str} {kvs : List (Str × Value)} {outer : List (Int × Value)} {rowf : Int → List Int} {cut : Option Int} {cutv : Value} {N : List Int}

theorem GraphAt.cons {x : HP} (GA : GraphAt prog w T C g gd od av ax kvs outer) : GraphAt prog w (x :: T) C g gd od av ax kvs outer := by
  obtain ⟨⟨_, h1⟩, ⟨_, h2⟩, ⟨_, h3⟩, ⟨_, h4⟩, ⟨_, h5⟩, h6⟩ := GA
  exact ⟨⟨_, .there h1⟩, ⟨_, .there h2⟩, ⟨_, .there h3⟩, ⟨_, .there h4⟩, ⟨_, .there h5⟩, h6⟩
theorem RowAt.cons {x : HP} {xs : List Int} (RA : RowAt prog w T outer v xs) : RowAt prog w (x :: T) outer v xs := by
  obtain ⟨d, row, ep, _, h1, h2, h3⟩ := RA
  exact ⟨d, row, ep, _, h1, .there h2, h3⟩

/-- if cutoff and cutoff <= level: break -/
theorem b_cut {Q : Flow → Shared → Prop} {q : List HP} (O : Own σ ps s) (hL : Pick L (IsNs m) ps q) (hc : m "cutoff" = some cutv) (hcv : CutV cut cutv) (hl : m "level" = some (.int lvl tl))
    (h : ∀ s', Own σ ps s' → Q (if cutsAt cut lvl then .brk else .next) s') : wpAny (model prog w) A (execs (predT w).1.2.2.2.2.2 (predEnv w L)) Q E s := by
  refine wpAny_execs_cons (wpAny_If (wpAny_isTrue_BoolOp (wpAny_allTrue_And_cons (wpAny_isTrue_value (r_ld O ?_ (hp := hL) (hv := hc))))))
  cases hcv with
  | none =>
    refine truthy_none ?_
    exact wpAny_execs_nil (wpAny_execs_nil (h s O))
  | int c t =>
    refine truthy_int ?_
    by_cases hc0 : c = 0
    · subst hc0
      exact wpAny_execs_nil (wpAny_execs_nil (h s O))
    · have e0 : (c != 0) = true := by simpa using hc0
      rw [e0]
      refine wpAny_allTrue_And_cons (wpAny_isTrue_Compare1 (r_ld O (r_ld O (r_le (wpAny_truthy_bool ?_)) (hp := hL) (hv := hl)) (hp := hL) (hv := hc)))
      have hcut : cutsAt (some c) lvl = decide (c ≤ lvl) := by unfold cutsAt; simp [e0]
      rw [hcut] at h
      by_cases hle : c ≤ lvl
      · simp only [hle, decide_true, if_true] at h ⊢
        exact wpAny_allTrue_And_nil (wpAny_execs_cons (wpAny_Break (h s O)))
      · simp only [hle, decide_false] at h ⊢
        exact wpAny_execs_nil (wpAny_execs_nil (h s O))

/-- what the loops leave alone -/
def Kept (m m' : Str → Option Value) : Prop := ∀ x : Str, x ≠ "w" → x ≠ "v" → x ≠ "level" → x ≠ "thislevel" → x ≠ "nextlevel" → m' x = m x

theorem b_while {R : Result → Shared → Prop} {P : List Ent} {this : List Int} (G : GC C cp cpd fn nm) (X : PF (KF w) σ mg mb) (hr : Room A (n + 6)) (O : Own σ ((L, IsNs m) :: bled prog w nl sd pd la (P, this) T) s)
    (GA : GraphAt prog w T C g gd od av ax kvs outer) (RA : ∀ v ∈ N, RowAt prog w T outer v (rowf v))
    (hG : m "G" = some (.ref g)) (hl : m "level" = some (.int lvl tl)) (hs : m "seen" = some (.ref sd)) (hp : m "pred" = some (.ref pd)) (hn : m "nextlevel" = some (.ref nl)) (hc : m "cutoff" = some cutv) (hcv : CutV cut cutv)
    (k : Nat) (hb : bokBfs rowf N cut k lvl P this)
    (h : ∀ la' m' nl' rest s', Own σ ((L, IsNs m') :: bled prog w nl' sd pd la' (bfs rowf cut k lvl P this, rest) T) s' → Kept m m' → R (.ok .next) s') :
    codeAny (model prog w) A (.whileLoop (predB w).1.2.1 (predB w).1.2.2.1 [] (predEnv w L)) R s := by
  refine codeAny_whileLoop (fun k s => ∃ (la : Int → Addr) (m' : Str → Option Value) (nl : Addr) (lvl' : Int) (tl : Tok) (P' : List Ent) (this' : List Int), Own σ ((L, IsNs m') :: bled prog w nl sd pd la (P', this') T) s ∧ m' "level" = some (.int lvl' tl) ∧ m' "nextlevel" = some (.ref nl) ∧
      Kept m m' ∧ bokBfs rowf N cut k lvl' P' this' ∧ ∀ la' m' nl' rest s', Own σ ((L, IsNs m') :: bled prog w nl' sd pd la' (bfs rowf cut k lvl' P' this', rest) T) s' → Kept m m' → R (.ok .next) s') ?_ k ⟨la, m, nl, lvl, tl, P, this, O, hl, hn, fun _ _ _ _ _ _ => rfl, hb, h⟩
  rintro k s ⟨la, m', nl, lvl', tl, P', this', O, hl, hn, hm, hb, h⟩
  cases k with
  | zero => exact hb.elim
  | succ k =>
  cases this' with
  | nil =>
    refine wpAny_isTrue_value (r_ld O ?_ (hv := hn))
    refine r_truthyI O (fun s1 O1 => ?_) (.there .here) (by rw [sizeLine_eq]; exact Nat.zero_le _)
    exact wpAny_execs_nil (h la m' nl [] s1 O1 hm)
  | cons v vs =>
    obtain ⟨hz, hN, hok, hrest⟩ := hb
    refine wpAny_isTrue_value (r_ld O ?_ (hv := hn))
    refine r_truthyI O (fun s1 O1 => ?_) (.there .here) (by rw [sizeLine_eq]; simp only at hz ⊢; omega)
    refine wpAny_execs_cons (wpAny_Assign_Name (wpAny_BinOp (r_ld O1 (r_int O1 fun t1 s2 O2 => r_add O2 fun t2 s3 O3 => ?_) (hv := hl))))
    refine r_st O3 fun s4 O4 => ?_
    refine wpAny_execs_cons (wpAny_Assign_Name (r_ld O4 ?_ (hv := upd_other (by decide) hn)))
    refine r_st O4 fun s5 O5 => ?_
    refine wpAny_execs_cons (wpAny_Assign_Name (r_List (spliced_none (r_newI O5 .nil fun nl' s6 O6 => ?_))))
    refine r_st O6 fun s7 O7 => ?_
    have hk : Kept m (upd (upd (upd m' "level" (.int (lvl' + 1) t2)) "thislevel" (.ref nl)) "nextlevel" (.ref nl')) := fun x h1 h2 h3 h4 h5 => (upd_other h5 (upd_other h4 (upd_other h3 rfl))).trans (hm x h1 h2 h3 h4 h5)
    have O8 := O7.to (qs := (nl, IsI (v :: vs)) :: (L, IsNs _) :: (nl', IsI []) :: (sd, _) :: (pd, _) :: (bfam la P' ++ T))
    have O9 : Own σ ((L, IsNs _) :: bled prog w nl' sd pd la (P', []) ((nl, IsI (v :: vs)) :: T)) s7 := Own.tailPerm (front := [(L, IsNs _), (nl', IsI []), (sd, _), (pd, _)]) (T := bfam la P' ++ ((nl, IsI (v :: vs)) :: T)) O8 List.perm_middle.symm
    have kp : ∀ {x : Str} {y : Value}, m x = some y → x ≠ "w" → x ≠ "v" → x ≠ "level" → x ≠ "thislevel" → x ≠ "nextlevel" → upd (upd (upd m' "level" (.int (lvl' + 1) t2)) "thislevel" (.ref nl)) "nextlevel" (.ref nl') x = some y := fun hy a b c d e => (hk _ a b c d e).trans hy
    refine wpAny_execs_cons (wpAny_For (r_ld O9 ?_ (hv := upd_other (by decide) (upd_same _ _ _))))
    refine r_iterI O9 (fun I s10 O10 => ?_) (.there (.there (.there (.there (.right .here)))))
    refine b_outer (st := (P', [])) G X hr O10 GA.cons (fun v hv => (RA v (hN v hv)).cons) .here (kp hG (by decide) (by decide) (by decide) (by decide) (by decide)) (upd_other (by decide) (upd_other (by decide) (upd_same _ _ _))) (kp hs (by decide) (by decide) (by decide) (by decide) (by decide)) (kp hp (by decide) (by decide) (by decide) (by decide) (by decide)) (upd_same _ _ _) rfl hok fun la' m'' s11 O11 hm'' => ?_
    have hk'' : Kept m m'' := fun x h1 h2 h3 h4 h5 => (hm'' x h1 h2).trans (hk x h1 h2 h3 h4 h5)
    refine b_cut O11 .here ((hk'' "cutoff" (by decide) (by decide) (by decide) (by decide) (by decide)).trans hc) hcv ((hm'' "level" (by decide) (by decide)).trans (upd_other (by decide) (upd_other (by decide) (upd_same _ _ _)))) fun s12 O12 => ?_
    have O13 : Own σ ((L, IsNs m'') :: bled prog w nl' sd pd la' (bturn rowf (lvl' + 1) P' (v :: vs)) T) s12 := by
      have : Own σ (((nl, IsI (v :: vs)) : HP) :: ((L, IsNs m'') :: bled prog w nl' sd pd la' (bturn rowf (lvl' + 1) P' (v :: vs)) T)) s12 := O12.perm (List.perm_middle (l₁ := (L, IsNs m'') :: (nl', _) :: (sd, _) :: (pd, _) :: bfam la' (bturn rowf (lvl' + 1) P' (v :: vs)).1))
      exact this.tail
    have hstep : bfs rowf cut (k + 1) lvl' P' (v :: vs) = if cutsAt cut (lvl' + 1) then (bturn rowf (lvl' + 1) P' (v :: vs)).1 else bfs rowf cut k (lvl' + 1) (bturn rowf (lvl' + 1) P' (v :: vs)).1 (bturn rowf (lvl' + 1) P' (v :: vs)).2 := rfl
    rw [hstep] at h
    cases hcu : cutsAt cut (lvl' + 1) with
    | true =>
      rw [hcu] at h
      exact h la' m'' nl' _ s12 O13 hk''
    | false =>
      rw [hcu] at h
      exact ⟨k, Nat.lt_succ_self _, la', m'', nl', lvl' + 1, t2, _, _, O13, (hm'' "level" (by decide) (by decide)).trans (upd_other (by decide) (upd_other (by decide) (upd_same _ _ _))), (hm'' "nextlevel" (by decide) (by decide)).trans (upd_same _ _ _), hk'', hrest hcu, h⟩
end
end Mine
end

-- Bw4
section
open PySem PySem.W PyProof.Rows PySem.Calls
set_option Elab.async false
set_option maxRecDepth 100000
set_option maxHeartbeats 1000000
set_option linter.unusedVariables false
namespace Mine
section
variable {prog : Program} {w : World} {A : Around} {E : Value → Shared → Prop} {σ s : Shared} {env : Env} {ps : List HP}
/-- a dict's display of one pair -/
theorem r_Dict1 {k v : Expr} {pos : Pos} {Q : Value → Shared → Prop} (O : Own σ ps s)
    (h : ∀ d s1, Own σ ((d, IsD prog w []) :: ps) s1 → wpAny (model prog w) A (eval k env) (fun kv s2 => wpAny (model prog w) A (eval v env) (fun vv s3 => ∃ x t ps3, kv = .int x t ∧ Own σ ((d, IsD prog w []) :: ps3) s3 ∧
      ∀ s4, Own σ ((d, IsD prog w [(x, vv)]) :: ps3) s4 → Q (.ref d) s4) E s2) E s1) : wpAny (model prog w) A (eval (.Dict [some k] [v] pos) env) Q E s := by
  refine wpAny_Dict_pairs (knd := intKind prog w) (pairs := [(eval k env, do let x ← eval v env; standAt pos; pure x)]) rfl (by simp) (by simp) ?_
  refine evalPairs_cons ?_
  refine wpAny_mono (h s.heap.objs.size _ (O.push (t := s.toks) isD_nil)) (fun kv s2 h2 => ?_) fun _ _ e => e
  refine wpAny_bind (wpAny_mono h2 (fun vv s3 h3 => wpAny_bind (wpAny_standAt (wpAny_pure ?_))) fun _ _ e => e)
  obtain ⟨x, t, ps3, rfl, O3, h4⟩ := h3
  refine evalPairs_nil ⟨[(x, vv)], ⟨isInt_self x t, rfl, trivial⟩, O3.dict .here, fun h' hd hs => ?_⟩
  exact h4 _ (O3.upd (t := s3.toks + 1) .here hs.extBut (Heap.dictOf_iff.mp hd))
end
end Mine
end

-- Bw5
section
open PySem PySem.W PyProof.Rows PySem.Calls
set_option Elab.async false
set_option maxRecDepth 100000
set_option maxHeartbeats 1000000
set_option linter.unusedVariables false
namespace Mine
section
variable {prog : Program} {w : World} {A : Around} {E : Value → Shared → Prop} {σ s : Shared} {T r r' r'' : List HP} {mg mb m : Str → Option Value} {L nl sd pd : Addr} {la : Int → Addr} {st : List Ent × List Int} {k goal : Int} {tk tg : Tok}

theorem ent_none_pd (he : entAt st.1 k = none) : (valueAt (st.1.map fun e => (e.1, (.ref (la e.1) : Value))) k).isSome = false := by rw [vAt_ents, he]; rfl
theorem ent_some_pd {e : Int × List Int} (he : entAt st.1 k = some e) : (valueAt (st.1.map fun e => (e.1, (.ref (la e.1) : Value))) k).isSome = true := by rw [vAt_ents, he]; rfl

theorem p_pair {Q : Flow → Shared → Prop} (O : Own σ ((L, IsNs m) :: bled prog w nl sd pd la st T) s) (ht : m "target" = some .none) (hr : m "return_seen" = some (.bool true)) (hs : m "seen" = some (.ref sd)) (hp : m "pred" = some (.ref pd))
    (h : ∀ tp s', Own σ ((tp, IsT [.ref pd, .ref sd]) :: (L, IsNs m) :: bled prog w nl sd pd la st T) s' → Q (.ret (.ref tp)) s') : wpAny (model prog w) A (execs (predB w).1.2.2.2.2 (predEnv w L)) Q E s := by
  refine wpAny_execs_cons (wpAny_If (wpAny_isTrue_Compare1 (r_ld O (r_none ?_) (hv := ht))))
  refine wpAny_isNot_self rfl (wpAny_truthy_bool ?_)
  refine wpAny_execs_cons (wpAny_If (wpAny_isTrue_value (r_ld O ?_ (hv := hr))))
  refine wpAny_truthy_bool ?_
  refine wpAny_execs_cons (wpAny_Return_some (r_Tuple (spliced_more (r_ld O (spliced_more (r_ld O (spliced_none ?_) (hv := hs))) (hv := hp)))))
  exact r_newTuple O h
theorem p_dict {Q : Flow → Shared → Prop} (O : Own σ ((L, IsNs m) :: bled prog w nl sd pd la st T) s) (ht : m "target" = some .none) (hr : m "return_seen" = some .none) (hp : m "pred" = some (.ref pd))
    (h : Q (.ret (.ref pd)) s) : wpAny (model prog w) A (execs (predB w).1.2.2.2.2 (predEnv w L)) Q E s := by
  refine wpAny_execs_cons (wpAny_If (wpAny_isTrue_Compare1 (r_ld O (r_none ?_) (hv := ht))))
  refine wpAny_isNot_self rfl (wpAny_truthy_bool ?_)
  refine wpAny_execs_cons (wpAny_If (wpAny_isTrue_value (r_ld O ?_ (hv := hr))))
  refine truthy_none ?_
  exact wpAny_execs_cons (wpAny_Return_some (r_ld O h (hv := hp)))
theorem Own.right {σ s : Shared} {ps qs : List HP} (O : Own σ (ps ++ qs) s) : Own σ qs s := (O.perm List.perm_append_comm).left
theorem Own.mid {x : HP} {front T : List HP} (O : Own σ (x :: (front ++ T)) s) : Own σ (x :: T) s := Own.right (ps := front) (O.perm List.perm_middle.symm)
theorem Own.mid2 {x y : HP} {front T : List HP} (O : Own σ (x :: y :: (front ++ T)) s) : Own σ (x :: y :: T) s := by
  have := Own.mid (front := front) (T := x :: T) (x := y) (O.perm ((List.Perm.swap y x _).trans (List.Perm.cons y List.perm_middle.symm)))
  exact this.perm (.swap _ _ _)
theorem pick_ent {P : List Ent} {e : Int × List Int} (he : entAt P k = some e) : ∃ r, Pick (la k) (IsI e.2) (bfam la P) r := by
  obtain ⟨l1, l2, rfl⟩ := List.append_of_mem (entAt_some he)
  refine ⟨bfam la l1 ++ bfam la l2, ?_⟩
  unfold bfam
  rw [List.map_append, List.map_cons]
  exact .right .here
/-- a list of ints, its entry's or an empty one -/
theorem p_goal {Q : Flow → Shared → Prop} (X : PF (KF w) σ mg mb) (O : Own σ ((L, IsNs m) :: bled prog w nl sd pd la st T) s) (ht : m "target" = some (.int goal tg)) (hr : m "return_seen" = some .none) (hp : m "pred" = some (.ref pd))
    (h : ∀ a s', Own σ ((a, IsI (((entAt st.1 goal).map (·.2)).getD [])) :: T) s' → Q (.ret (.ref a)) s') : wpAny (model prog w) A (execs (predB w).1.2.2.2.2 (predEnv w L)) Q E s := by
  refine wpAny_execs_cons (wpAny_If (wpAny_isTrue_Compare1 (r_ld O (r_none ?_) (hv := ht))))
  refine wpAny_isNot_other rfl (fun e => nomatch e) (wpAny_truthy_bool ?_)
  refine wpAny_execs_cons (wpAny_If (wpAny_isTrue_value (r_ld O ?_ (hv := hr))))
  refine truthy_none ?_
  refine wpAny_execs_cons (wpAny_If (wpAny_isTrue_Compare1 (r_ld O (r_ld O ?_ (hv := hp)) (hv := ht))))
  refine r_notin X O (fun s1 O1 => ?_) (.there (.there (.there .here)))
  refine wpAny_truthy_bool ?_
  cases he : entAt st.1 goal with
  | none =>
    rw [ent_none_pd he]
    rw [he] at h
    refine wpAny_execs_cons (wpAny_Return_some (r_List (spliced_none (r_newI O1 .nil fun a s2 O2 => ?_))))
    exact h a s2 (Own.mid (front := [(L, IsNs m), (nl, _), (sd, _), (pd, _)] ++ bfam la st.1) O2)
  | some e =>
    rw [ent_some_pd he]
    rw [he] at h
    obtain ⟨l1, l2, hl⟩ := List.append_of_mem (entAt_some he)
    refine wpAny_execs_nil (wpAny_execs_cons (wpAny_Return_some (Subscript_ (r_ld O1 (r_ld O1 ?_ (hv := ht)) (hv := hp)))))
    refine r_sub O1 (fun s2 O2 => ?_) (by rw [vAt_ents, he]; rfl) (.there (.there (.there .here)))
    have hpk := pick_ent (la := la) he
    exact h (la goal) s2 (Own.mid (front := [(L, IsNs m), (nl, _), (sd, _), (pd, _)] ++ hpk.choose) (O2.front (.there (.there (.there (.there (.left hpk.choose_spec)))))))

theorem p_goalPair {Q : Flow → Shared → Prop} (X : PF (KF w) σ mg mb) (O : Own σ ((L, IsNs m) :: bled prog w nl sd pd la st T) s) (ht : m "target" = some (.int goal tg)) (hr : m "return_seen" = some (.bool true)) (hs : m "seen" = some (.ref sd)) (hp : m "pred" = some (.ref pd))
    (h : ∀ a tp t s', Own σ ((tp, IsT [.ref a, .int (((entAt st.1 goal).map (·.1)).getD (-1)) t]) :: (a, IsI (((entAt st.1 goal).map (·.2)).getD [])) :: T) s' → Q (.ret (.ref tp)) s') : wpAny (model prog w) A (execs (predB w).1.2.2.2.2 (predEnv w L)) Q E s := by
  refine wpAny_execs_cons (wpAny_If (wpAny_isTrue_Compare1 (r_ld O (r_none ?_) (hv := ht))))
  refine wpAny_isNot_other rfl (fun e => nomatch e) (wpAny_truthy_bool ?_)
  refine wpAny_execs_cons (wpAny_If (wpAny_isTrue_value (r_ld O ?_ (hv := hr))))
  refine wpAny_truthy_bool ?_
  refine wpAny_execs_cons (wpAny_If (wpAny_isTrue_Compare1 (r_ld O (r_ld O ?_ (hv := hp)) (hv := ht))))
  refine r_notin X O (fun s1 O1 => ?_) (.there (.there (.there .here)))
  refine wpAny_truthy_bool ?_
  cases he : entAt st.1 goal with
  | none =>
    rw [ent_none_pd he]
    rw [he] at h
    refine wpAny_execs_cons (wpAny_Return_some (r_Tuple (spliced_more (r_List (spliced_none (r_newI O1 .nil fun a s2 O2 => ?_))))))
    refine spliced_more (wpAny_UnaryOp (r_int O2 fun t s3 O3 => neg_int (spliced_none ?_)))
    refine r_newTuple (O3.toks (t := s3.toks + 1)) fun tp s4 O4 => ?_
    exact h a tp _ s4 (Own.mid2 (front := [(L, IsNs m), (nl, _), (sd, _), (pd, _)] ++ bfam la st.1) O4)
  | some e =>
    rw [ent_some_pd he]
    rw [he] at h
    have hi : intAt (st.1.map fun e => (e.1, e.2.1)) goal = some e.1 := by rw [intAt_ents, he]; rfl
    refine wpAny_execs_nil (wpAny_execs_cons (wpAny_Return_some (r_Tuple (spliced_more (Subscript_ (r_ld O1 (r_ld O1 ?_ (hv := ht)) (hv := hp)))))))
    refine r_sub O1 (fun s2 O2 => ?_) (by rw [vAt_ents, he]; rfl) (.there (.there (.there .here)))
    refine spliced_more (Subscript_ (r_ld O2 (r_ld O2 ?_ (hv := ht)) (hv := hs)))
    refine r_subDI O2 (fun t s3 O3 => spliced_none ?_) hi (.there (.there .here))
    have hpk := pick_ent (la := la) he
    refine r_newTuple (O3.front (.there (.there (.there (.there (.left hpk.choose_spec)))))) fun tp s4 O4 => ?_
    exact h (la goal) tp t s4 (Own.mid2 (front := [(L, IsNs m), (nl, _), (sd, _), (pd, _)] ++ hpk.choose) O4)
end
end Mine
end

-- Bw6
section
open PySem PySem.W PyProof.Rows PySem.Calls
set_option Elab.async false
set_option maxRecDepth 100000
set_option maxHeartbeats 1000000
set_option linter.unusedVariables false
namespace Mine
section
variable {prog : Program} {w : World} {A : Around} {E : Value → Shared → Prop} {σ s : Shared} {T T0 ps r r' r'' : List HP} {mg mb m : Str → Option Value} {L nl sd pd : Addr} {la : Int → Addr} {st : List Ent × List Int} {k goal src : Int} {tk tg ts : Tok} {n : Nat} {R : Result → Shared → Prop}
  {C cp cpd fn g gd od av ax nd : Addr} {nm : Str} {kvs : List (Str × Value)} {outer nodes : List (Int × Value)} {rowf : Int → List Int} {cut : Option Int} {cutv tgv rsv : Value} {N : List Int}

theorem g_contains (G : GC C cp cpd fn nm) (X : PF (KF w) σ mg mb) (O : Own σ ps s) (hr : Room A (n + 1)) (hg : Pick g (IsO (plainObj C (some gd) #[])) ps r) (hgd : Pick gd (IsS prog w kvs) ps r') (hn : valueAt kvs "_node" = some (.ref nd)) (hnd : Pick nd (IsD prog w nodes) ps r'')
    (h : ∀ s', Own σ ps s' → R (.ok (.ret (.bool (valueAt nodes k).isSome))) s') : codeAny (model prog w) A (.call (.ref 467) ⟨[.ref g, .int k tk], []⟩) R s := by
  refine c_def X O hr rfl rfl (binds := [("self", .ref g), ("n", .int k tk)]) (BindsTo.of_eq rfl) fun L s1 E' O1 hr1 => ?_
  refine wpAny_execs_cons (wpAny_Try_except (wpAny_execs_cons (wpAny_Return_some (wpAny_Compare1 (r_ld O1 (Attribute_any_ (r_ld O1 ?_ (hv := rfl))) (hv := rfl))))))
  cases G
  all_goals
    refine r_attr X O1 (fun s2 O2 => ?_) (hg := hg.there) (hd := hgd.there) (hv := hn)
    exact r_in X O2 (fun s3 O3 => h _ O3.tail) hnd.there

theorem r_notinG {Q : Value → Shared → Prop} {q : List HP} (G : GC C cp cpd fn nm) (X : PF (KF w) σ mg mb) (O : Own σ ps s) (hr : Room A (n + 1)) (hL : Pick L (IsNs m) ps q) (hg : Pick g (IsO (plainObj C (some gd) #[])) ps r) (hgd : Pick gd (IsS prog w kvs) ps r') (hn : valueAt kvs "_node" = some (.ref nd)) (hnd : Pick nd (IsD prog w nodes) ps r'')
    (h : ∀ s', Own σ ps s' → Q (.bool (!(valueAt nodes k).isSome)) s') : wpAny (model prog w) A (compareOp .NotIn (.int k tk) (.ref g)) Q E s := by
  obtain ⟨o, hS, I⟩ := inst_dict O hg hgd
  refine notIn_K (f := 467) (O.fr hL) X.K I (by cases G <;> rfl) (by rfl) (wpAny_call (g_contains G X O hr hg hgd hn hnd fun s1 O1 => ?_))
  exact wpAny_truthy_bool (h s1 O1)

theorem nocell {sc : List (Str × NameKind)} (h : (sc.all fun x => x.2 != .cell) = true) : ∀ x ∈ sc, x.2 ≠ .cell := fun x hx e => by
  have := List.all_eq_true.mp h x hx
  rw [e] at this
  cases this

/-- predecessor, once the view is kept -/
theorem p_any {args : Args} {kk : Nat} (G : GC C cp cpd fn nm) (X : PF (KF w) σ mg mb) (hr : Room A (n + 7)) (O : Own σ T s)
    (GA : GraphAt prog w T C g gd od av ax kvs outer) (hnode : valueAt kvs "_node" = some (.ref nd)) (hnd : Pick nd (IsD prog w nodes) T r) (hsrc : (valueAt nodes src).isSome = true) (RA : ∀ v ∈ N, RowAt prog w T outer v (rowf v)) (hcv : CutV cut cutv)
    (hbind : (KF w).In s.heap → BindsTo s (predF w).1.2.2.1 args [("G", .ref g), ("source", .int src ts), ("target", tgv), ("cutoff", cutv), ("return_seen", rsv)])
    (hb : bokBfs rowf N cut kk 0 [(src, 0, [])] [src])
    (tail : ∀ A' E' L m nl sd pd la rest s', Own σ ((L, IsNs m) :: bled prog w nl sd pd la (bfs rowf cut kk 0 [(src, 0, [])] [src], rest) T) s' → m "target" = some tgv → m "return_seen" = some rsv → m "seen" = some (.ref sd) → m "pred" = some (.ref pd) →
      wpAny (model prog w) A' (execs (predB w).1.2.2.2.2 (predEnv w L)) (fun fl s'' => R (.ok (.ret (match fl with | .ret v => v | _ => .none))) s'') E' s') :
    codeAny (model prog w) A (.call (.ref 66) args) R s := by
  refine c_def X O hr (predF w).2 (predB w).2 (hbind (O.inK X)) (hcell := nocell (by rfl)) fun L s1 E' O1 hr1 => ?_
  obtain ⟨_, hg⟩ := GA.h_g
  obtain ⟨_, hgd⟩ := GA.h_gd
  refine wpAny_execs_cons (wpAny_If (wpAny_isTrue_Compare1 (r_ld O1 (r_ld O1 ?_ (hv := rfl)) (hv := rfl))))
  refine r_notinG (n := n) G X O1 (hr1.less (by omega)) .here hg.there hgd.there hnode hnd.there fun s2 O2 => ?_
  rw [hsrc]
  refine wpAny_truthy_bool (wpAny_execs_nil ?_)
  refine wpAny_execs_cons (wpAny_Assign_Name (r_int O2 fun t1 s3 O3 => ?_))
  refine r_st O3 fun s4 O4 => ?_
  refine wpAny_execs_cons (wpAny_Assign_Name (r_List (spliced_more (r_ld O4 (spliced_none (r_newI O4 (.cons src ts .nil) fun nl s5 O5 => ?_)) (hv := upd_other (by decide) rfl)))))
  refine r_st O5 fun s6 O6 => ?_
  refine wpAny_execs_cons (wpAny_Assign_Name (r_Dict1 O6 fun sd s7 O7 => ?_))
  refine r_ld O7 (r_ld O7 ⟨src, ts, _, rfl, O7, fun s8 O8 => ?_⟩ (hv := upd_other (by decide) (upd_same _ _ _))) (hv := upd_other (by decide) (upd_other (by decide) rfl))
  refine r_st O8 fun s9 O9 => ?_
  refine wpAny_execs_cons (wpAny_Assign_Name (r_Dict1 O9 fun pd s10 O10 => ?_))
  refine r_ld O10 (r_List (spliced_none (r_newI O10 .nil fun a0 s11 O11 => ⟨src, ts, _, rfl, O11.perm (.swap _ _ _), fun s12 O12 => ?_⟩))) (hv := upd_other (by decide) (upd_other (by decide) (upd_other (by decide) rfl)))
  refine r_st O12 fun s13 O13 => ?_
  have O14 := O13.to (qs := (sd, IsD prog w [(src, .int 0 t1)]) :: (L, IsNs _) :: (nl, IsI [src]) :: (pd, IsD prog w [(src, .ref a0)]) :: (a0, IsI []) :: T)
  have O15 := (O14.imp (P' := IsDI prog w [(src, 0)]) fun o ho => ⟨fun _ => t1, ho⟩).to (qs := (L, IsNs _) :: bled prog w nl sd pd (fun _ => a0) ([(src, 0, [])], [src]) T)
  refine wpAny_execs_cons (wpAny_While ?_)
  refine b_while (n := n) (tl := t1) (lvl := 0) G X (hr1.less (by omega)) O15 GA RA ?_ ?_ ?_ ?_ ?_ ?_ hcv kk hb fun la' m' nl' rest s14 O16 hk => ?_
  rotate_left 6
  · exact tail _ _ L m' nl' sd pd la' rest s14 O16 ((hk "target" (by decide) (by decide) (by decide) (by decide) (by decide)).trans (upd_other (by decide) (upd_other (by decide) (upd_other (by decide) (upd_other (by decide) rfl)))))
      ((hk "return_seen" (by decide) (by decide) (by decide) (by decide) (by decide)).trans (upd_other (by decide) (upd_other (by decide) (upd_other (by decide) (upd_other (by decide) rfl)))))
      ((hk "seen" (by decide) (by decide) (by decide) (by decide) (by decide)).trans (upd_other (by decide) (upd_same _ _ _))) ((hk "pred" (by decide) (by decide) (by decide) (by decide) (by decide)).trans (upd_same _ _ _))
  · exact upd_other (by decide) (upd_other (by decide) (upd_other (by decide) (upd_other (by decide) rfl)))
  · exact upd_other (by decide) (upd_other (by decide) (upd_other (by decide) (upd_same _ _ _)))
  · exact upd_other (by decide) (upd_same _ _ _)
  · exact upd_same _ _ _
  · exact upd_other (by decide) (upd_other (by decide) (upd_same _ _ _))
  · exact upd_other (by decide) (upd_other (by decide) (upd_other (by decide) (upd_other (by decide) rfl)))
end
end Mine
end

-- Bw7
section
open PySem PySem.W PyProof.Rows PySem.Calls
set_option Elab.async false
set_option maxRecDepth 100000
set_option maxHeartbeats 1000000
set_option linter.unusedVariables false
namespace Mine
theorem valueAt_snoc {K : Type} [DecidableEq K] {kvs : List (K × Value)} {k : K} {v : Value} (h : valueAt kvs k = none) : valueAt (kvs ++ [(k, v)]) k = some v := by
  unfold valueAt at h ⊢
  rw [Option.map_eq_none_iff] at h
  rw [List.find?_append, h]
  simp
section
variable {prog : Program} {w : World} {A : Around} {E : Value → Shared → Prop} {σ s : Shared} {T T0 ps r r' r'' : List HP} {mg mb m : Str → Option Value} {L nl sd pd : Addr} {la : Int → Addr} {st : List Ent × List Int} {k goal src : Int} {tk tg ts : Tok} {n : Nat} {R : Result → Shared → Prop}
  {C cp cpd fn g gd od av ax nd : Addr} {nm : Str} {kvs : List (Str × Value)} {outer nodes : List (Int × Value)} {rowf : Int → List Int} {cut : Option Int} {cutv tgv rsv : Value} {N : List Int}

/-- predecessor, the first time -/
theorem p_first {args : Args} {kk : Nat} (G : GC C cp cpd fn nm) (X : PF (KF w) σ mg mb) (hr : Room A (n + 10)) (O : Own σ ((g, IsO (plainObj C (some gd) #[])) :: (gd, IsS prog w kvs) :: T0) s)
    (hnm : valueAt kvs nm = some (.ref od)) (hadj : valueAt kvs "adj" = none) (hz : kvs.length ≤ sizeLine) (hod : Pick od (IsD prog w outer) T0 r') (hnode : valueAt kvs "_node" = some (.ref nd)) (hnd : Pick nd (IsD prog w nodes) T0 r) (hsrc : (valueAt nodes src).isSome = true) (RA : ∀ v ∈ N, RowAt prog w T0 outer v (rowf v)) (hcv : CutV cut cutv)
    (hbind : (KF w).In s.heap → BindsTo s (predF w).1.2.2.1 args [("G", .ref g), ("source", .int src ts), ("target", tgv), ("cutoff", cutv), ("return_seen", rsv)])
    (hb : bokBfs rowf N cut (kk + 1) 0 [(src, 0, [])] [src])
    (tail : ∀ A' E' L m nl sd pd la rest av ax s', Own σ ((L, IsNs m) :: bled prog w nl sd pd la (bfs rowf cut (kk + 1) 0 [(src, 0, [])] [src], rest) ((av, IsO (plainObj 142 (some ax) #[some (.ref od)])) :: (ax, IsS prog w []) :: (g, IsO (plainObj C (some gd) #[])) :: (gd, IsS prog w (kvs ++ [(("adj" : Str), (.ref av : Value))])) :: T0)) s' →
      m "target" = some tgv → m "return_seen" = some rsv → m "seen" = some (.ref sd) → m "pred" = some (.ref pd) →
      wpAny (model prog w) A' (execs (predB w).1.2.2.2.2 (predEnv w L)) (fun fl s'' => R (.ok (.ret (match fl with | .ret v => v | _ => .none))) s'') E' s') :
    codeOk (model prog w) A (.call (.ref 66) args) R s := by
  refine cok_def X O hr (predF w).2 (predB w).2 (hbind (O.inK X)) (hcell := nocell (by rfl)) fun L s1 E' O1 hr1 => ?_
  refine ok_execs_cons (ok_any (wpAny_If (wpAny_isTrue_Compare1 (r_ld O1 (r_ld O1 ?_ (hv := rfl)) (hv := rfl)))))
  refine r_notinG (n := n) G X O1 (hr1.less (by omega)) .here (.there .here) (.there (.there .here)) hnode hnd.there.there.there fun s2 O2 => ?_
  rw [hsrc]
  refine wpAny_truthy_bool (wpAny_execs_nil ?_)
  refine ok_execs_cons (ok_any (wpAny_Assign_Name (r_int O2 fun t1 s3 O3 => ?_)))
  refine r_st O3 fun s4 O4 => ?_
  refine ok_execs_cons (ok_any (wpAny_Assign_Name (r_List (spliced_more (r_ld O4 (spliced_none (r_newI O4 (.cons src ts .nil) fun nl s5 O5 => ?_)) (hv := upd_other (by decide) rfl))))))
  refine r_st O5 fun s6 O6 => ?_
  refine ok_execs_cons (ok_any (wpAny_Assign_Name (r_Dict1 O6 fun sd s7 O7 => ?_)))
  refine r_ld O7 (r_ld O7 ⟨src, ts, _, rfl, O7, fun s8 O8 => ?_⟩ (hv := upd_other (by decide) (upd_same _ _ _))) (hv := upd_other (by decide) (upd_other (by decide) rfl))
  refine r_st O8 fun s9 O9 => ?_
  refine ok_execs_cons (ok_any (wpAny_Assign_Name (r_Dict1 O9 fun pd s10 O10 => ?_)))
  refine r_ld O10 (r_List (spliced_none (r_newI O10 .nil fun a0 s11 O11 => ⟨src, ts, _, rfl, O11.perm (.swap _ _ _), fun s12 O12 => ?_⟩))) (hv := upd_other (by decide) (upd_other (by decide) (upd_other (by decide) rfl)))
  refine r_st O12 fun s13 O13 => ?_
  have O14 := O13.to (qs := (sd, IsD prog w [(src, .int 0 t1)]) :: (L, IsNs _) :: (nl, IsI [src]) :: (pd, IsD prog w [(src, .ref a0)]) :: (a0, IsI []) :: (g, IsO (plainObj C (some gd) #[])) :: (gd, IsS prog w kvs) :: T0)
  have O15 := O14.imp (P' := IsDI prog w [(src, 0)]) fun o ho => ⟨fun _ => t1, ho⟩
  obtain ⟨hz1, hN, hok, hrest⟩ := hb
  refine ok_execs_cons (ok_While (codeOk_while ?_))
  refine wpAny_isTrue_value (r_ld O15 ?_ (hv := upd_other (by decide) (upd_other (by decide) (upd_same _ _ _))))
  refine r_truthyI O15 (fun s16 O16 => ⟨rfl, ?_⟩) (.there (.there .here)) (by rw [sizeLine_eq]; simp)
  refine ok_execs_cons (ok_any (wpAny_Assign_Name (wpAny_BinOp (r_ld O16 (r_int O16 fun t2 s17 O17 => r_add O17 fun t3 s18 O18 => ?_) (hv := upd_other (by decide) (upd_other (by decide) (upd_other (by decide) (upd_same _ _ _))))))))
  refine r_st O18 fun s19 O19 => ?_
  refine ok_execs_cons (ok_any (wpAny_Assign_Name (r_ld O19 ?_ (hv := upd_other (by decide) (upd_other (by decide) (upd_other (by decide) (upd_same _ _ _)))))))
  refine r_st O19 fun s20 O20 => ?_
  refine ok_execs_cons (ok_any (wpAny_Assign_Name (r_List (spliced_none (r_newI O20 .nil fun nl' s21 O21 => ?_)))))
  refine r_st O21 fun s22 O22 => ?_
  refine ok_execs_cons (ok_For (ok_any (r_ld O22 ?_ (hv := upd_other (by decide) (upd_same _ _ _)))))
  refine r_iterI O22 (xs := [src]) (fun I s23 O23 => ?_) (by repeat (first | exact Pick.here | apply Pick.there | apply Pick.right))
  refine codeOk_for (r_nextI O23 (x := src) (xs := [src]) rfl (fun t4 s24 O24 => ⟨_, rfl, ?_⟩) (by repeat (first | exact Pick.here | apply Pick.there | apply Pick.right)))
  refine wpAny_assign_Name (r_st O24 fun s25 O25 => ?_)
  have O26 := O25.to (qs := (g, IsO (plainObj C (some gd) #[])) :: (gd, IsS prog w kvs) :: (I, IsLI nl 1) :: (L, IsNs _) :: (nl', IsI []) :: (sd, IsDI prog w [(src, 0)]) :: (pd, IsD prog w [(src, .ref a0)]) :: (a0, IsI []) :: (nl, IsI [src]) :: T0)
  obtain ⟨d, row, ep, _, hd1, hd2, hd3⟩ := RA src (hN src (.head _))
  refine ok_execs_cons (ok_For (ok_Subscript (ok_any (r_ld (v := .ref g) O26 (ok_any (r_ld O26 ?_ (hv := upd_same _ _ _))) (hv := ?hG)))))
  case hG =>
    repeat (refine upd_other (by decide) ?_)
    rfl
  refine ok_sub (f := 481) X O26 (ok_call (getitem_first G X O26 (hr1.in1.less (m := n + 7) (by omega)) hnm hadj hz hod.there.there.there.there.there.there.there hd1 fun av ax x dx s27 O27 => ?_)) .here (.there .here) (gc_item G)
  refine r_iterView (n := n) X O27 (hr1.less (by omega)) (.there (.there (.there (.there (.there (.there (.there .here))))))) .here (.there .here) hd2.there.there.there.there.there.there.there.there.there.there.there.there.there fun I2 s28 O28 => ?_
  have O29 := O28.to (qs := (I2, _) :: (L, IsNs _) :: bled prog w nl' sd pd (fun _ => a0) ([(src, 0, [])], []) ((I, IsLI nl 1) :: (nl, IsI [src]) :: (av, IsO (plainObj 142 (some ax) #[some (.ref od)])) :: (ax, IsS prog w []) :: (g, IsO (plainObj C (some gd) #[])) :: (gd, IsS prog w (kvs ++ [(("adj" : Str), (.ref av : Value))])) :: T0))
  refine codeOk_any (b_inner (v := src) (lvl := 0 + 1) (tl := t3) (tv := t4) (b := rowf src) X hr1.hh O29 hd2.there.there.there.there.there.there ?_ ?_ ?_ ?_ ?_ (by simpa using hd3) (fun a c e => hok [] src [] rfl a c e) fun la' m' s30 O30 hm => ?_)
  rotate_left 5
  · refine ok_any (wpAny_execs_nil (codeOk_any ?_))
    have GA : GraphAt prog w ((nl, IsI [src]) :: (av, IsO (plainObj 142 (some ax) #[some (.ref od)])) :: (ax, IsS prog w []) :: (g, IsO (plainObj C (some gd) #[])) :: (gd, IsS prog w (kvs ++ [(("adj" : Str), (.ref av : Value))])) :: T0) C g gd od av ax (kvs ++ [(("adj" : Str), (.ref av : Value))]) outer :=
      ⟨⟨_, .there (.there (.there .here))⟩, ⟨_, .there (.there (.there (.there .here)))⟩, ⟨_, .there .here⟩, ⟨_, .there (.there .here)⟩, ⟨_, hod.there.there.there.there.there⟩, valueAt_snoc hadj⟩
    have O31 := O30.perm (List.perm_middle (l₁ := (L, IsNs m') :: (nl', _) :: (sd, _) :: (pd, _) :: bfam la' (bnode rowf (0 + 1) ([(src, 0, [])], []) src).1))
    refine b_outer (n := n) (rowf := rowf) (lvl := 0 + 1) (tl := t3) (b := []) (this := [src]) (j := 1) G X (hr1.less (by omega)) O31 GA (fun _ h => nomatch h) .here ?_ ?_ ?_ ?_ ?_ rfl (fun a v c e => by cases a <;> cases e) fun la'' m'' s32 O32 hm'' => ?_
    rotate_left 5
    · have hk : ∀ {x : Str} {y : Value}, x ≠ "w" → x ≠ "v" → _ = some y → m'' x = some y := fun {x y} h1 h2 h3 => ((hm'' x h1 h2).trans (hm x h1)).trans h3
      refine ok_any (b_cut O32 .here (hk (x := "cutoff") (by decide) (by decide) ?_) hcv (hk (x := "level") (y := .int (0 + 1) t3) (by decide) (by decide) ?_) fun s33 O33 => ?_)
      rotate_left 2
      · have O34 : Own σ ((L, IsNs m'') :: bled prog w nl' sd pd la'' (bturn rowf (0 + 1) [(src, 0, [])] [src]) ((av, IsO (plainObj 142 (some ax) #[some (.ref od)])) :: (ax, IsS prog w []) :: (g, IsO (plainObj C (some gd) #[])) :: (gd, IsS prog w (kvs ++ [(("adj" : Str), (.ref av : Value))])) :: T0)) s33 :=
          Own.tail (O33.perm (List.perm_middle (l₁ := (L, IsNs m'') :: (nl', _) :: (sd, _) :: (pd, _) :: bfam la'' (bturn rowf (0 + 1) [(src, 0, [])] [src]).1)))
        have hstep : bfs rowf cut (kk + 1) 0 [(src, 0, [])] [src] = if cutsAt cut (0 + 1) then (bturn rowf (0 + 1) [(src, 0, [])] [src]).1 else bfs rowf cut kk (0 + 1) (bturn rowf (0 + 1) [(src, 0, [])] [src]).1 (bturn rowf (0 + 1) [(src, 0, [])] [src]).2 := rfl
        rw [hstep] at tail
        have hT : m'' "target" = some tgv := hk (x := "target") (by decide) (by decide) (by repeat (refine upd_other (by decide) ?_); rfl)
        have hRs : m'' "return_seen" = some rsv := hk (x := "return_seen") (by decide) (by decide) (by repeat (refine upd_other (by decide) ?_); rfl)
        have hGm : m'' "G" = some (.ref g) := hk (x := "G") (by decide) (by decide) (by repeat (refine upd_other (by decide) ?_); rfl)
        have hCm : m'' "cutoff" = some cutv := hk (x := "cutoff") (by decide) (by decide) (by repeat (refine upd_other (by decide) ?_); rfl)
        have hSm : m'' "seen" = some (.ref sd) := hk (x := "seen") (by decide) (by decide) (by repeat (first | with_reducible exact upd_same _ _ _ | refine upd_other (by decide) ?_))
        have hPm : m'' "pred" = some (.ref pd) := hk (x := "pred") (by decide) (by decide) (by repeat (first | with_reducible exact upd_same _ _ _ | refine upd_other (by decide) ?_))
        have hNm : m'' "nextlevel" = some (.ref nl') := hk (x := "nextlevel") (by decide) (by decide) (by repeat (first | with_reducible exact upd_same _ _ _ | refine upd_other (by decide) ?_))
        have hLm : m'' "level" = some (.int (0 + 1) t3) := hk (x := "level") (by decide) (by decide) (by repeat (first | with_reducible exact upd_same _ _ _ | refine upd_other (by decide) ?_))
        cases hcu : cutsAt cut (0 + 1) with
        | true =>
          rw [hcu] at tail
          exact ok_any (tail _ _ L m'' nl' sd pd la'' _ av ax s33 O34 hT hRs hSm hPm)
        | false =>
          rw [hcu] at tail
          refine codeOk_any (b_while (n := n) (lvl := 0 + 1) G X (hr1.less (by omega)) O34 ⟨⟨_, .there (.there .here)⟩, ⟨_, .there (.there (.there .here))⟩, ⟨_, .here⟩, ⟨_, .there .here⟩, ⟨_, hod.there.there.there.there⟩, valueAt_snoc hadj⟩
            (fun v hv => (RA v hv).cons.cons.cons.cons) hGm hLm hSm hPm hNm hCm hcv kk (hrest hcu) fun la3 m3 nl3 rest s35 O35 hk3 => ?_)
          exact ok_any (tail _ _ L m3 nl3 sd pd la3 rest av ax s35 O35 ((hk3 "target" (by decide) (by decide) (by decide) (by decide) (by decide)).trans hT) ((hk3 "return_seen" (by decide) (by decide) (by decide) (by decide) (by decide)).trans hRs)
            ((hk3 "seen" (by decide) (by decide) (by decide) (by decide) (by decide)).trans hSm) ((hk3 "pred" (by decide) (by decide) (by decide) (by decide) (by decide)).trans hPm))
      all_goals
        repeat (first | with_reducible exact upd_same _ _ _ | refine upd_other (by decide) ?_)
        all_goals rfl
    all_goals
      refine (hm _ (by decide)).trans ?_
      repeat (first | with_reducible exact upd_same _ _ _ | refine upd_other (by decide) ?_)
      all_goals rfl
  all_goals
    repeat (first | with_reducible exact upd_same _ _ _ | refine upd_other (by decide) ?_)
    all_goals rfl
end
end Mine
end

-- Law0
section
open PySem PySem.W PyProof.Rows PySem.Calls
set_option Elab.async false
set_option maxRecDepth 100000
set_option maxHeartbeats 2000000
set_option linter.unusedVariables false
namespace Mine
noncomputable def lawF (w : World) : {p : Value × Option Addr × FuncData × Array (Option Value) // (KF w).lookup 839 = some ⟨p.1, p.2.1, .func p.2.2.1, p.2.2.2⟩} := ⟨(_, _, _, _), rfl⟩
noncomputable def lawB (w : World) : {p : List Stmt × List Stmt × Stmt × List Stmt × Stmt × List Stmt × List Stmt // (lawF w).1.2.2.1.body = .stmts (p.1 ++ (p.2.1 ++ (p.2.2.1 :: (p.2.2.2.1 ++ (p.2.2.2.2.1 :: (p.2.2.2.2.2.1 ++ p.2.2.2.2.2.2))))))} :=
  ⟨([_, _], [_, _, _, _], _, [_, _, _, _], _, [_, _, _, _], [_, _, _]), rfl⟩
noncomputable abbrev lawEnv (w : World) (L : Addr) : Env := callEnvC (lawF w).1.2.2.1 L 839
section
variable {M : Model} {A : Around} {E : Value → Shared → Prop} {s : Shared} {env : Env}
theorem seg_wp {a b : List Stmt} {Γ : Ctx} {Q : Flow → Pos → Shared → Prop} {E' : Value → Pos → Shared → Prop} (W : Pos → Shared → Prop) (hW : ∀ p s, W p s → Sem.wp M Γ (execs b env) Q E' p s) : ∀ {p : Pos} {s : Shared},
    Sem.wp M Γ (execs a env) (fun f p' s' => f = .next ∧ W p' s') E' p s → Sem.wp M Γ (execs (a ++ b) env) Q E' p s := by
  induction a with
  | nil => exact fun {p s} h => hW p s (show _ ∧ _ from h).2
  | cons st a ih =>
    intro p s h
    rw [List.cons_append, execs_cons, Sem.wp_bind']
    rw [execs_cons, Sem.wp_bind'] at h
    refine Sem.wp_mono M Γ _ (fun f p' s' h' => ?_) (fun _ _ _ h' => h') p s h
    cases f with
    | next => exact ih h'
    | brk => exact nomatch (show _ ∧ _ from h').1
    | cont => exact nomatch (show _ ∧ _ from h').1
    | ret v => exact nomatch (show _ ∧ _ from h').1
theorem seg_any {a b : List Stmt} {Q : Flow → Shared → Prop} (h : wpAny M A (execs a env) (fun f s' => f = .next ∧ wpAny M A (execs b env) Q E s') E s) : wpAny M A (execs (a ++ b) env) Q E s :=
  fun Γ p hΓ => seg_wp (fun _ s' => wpAny M A (execs b env) Q E s') (fun p' s' h' => h' Γ p' hΓ) (h Γ p hΓ)
theorem seg_ok {a b : List Stmt} {Q : Flow → Shared → Prop} (h : wpOk M A (execs a env) (fun f s' => f = .next ∧ wpOk M A (execs b env) Q E s') E s) : wpOk M A (execs (a ++ b) env) Q E s :=
  fun Γ p hΓ h1 h2 => seg_wp (fun _ s' => wpOk M A (execs b env) Q E s') (fun p' s' h' => h' Γ p' hΓ h1 h2) (h Γ p hΓ h1 h2)
end
section
variable {prog : Program} {w : World} {A : Around} {E : Value → Shared → Prop} {σ s : Shared} {env : Env} {ps r r' : List HP} {t : Addr}
theorem r_unpack3 {x y z : Expr} {k : Nat} {pos : Pos} {v u q : Value} {Q : Unit → Shared → Prop} (O : Own σ ps s) (hh : A.handled = none) (hp : Pick t (IsT [v, u, q]) ps r)
    (hn : (assignEach [x, y, z] env).length = 3) (hstar : (assignEach [x, y, z] env).findIdx? (·.1) = none) (he : (assignEach [x, y, z] env).map (·.2) = [assign x env, assign y env, assign z env])
    (h : ∀ s', Own σ ps s' → wpAny (model prog w) A (assign x env v) (fun _ s₁ => wpAny (model prog w) A (assign y env u) (fun _ s₂ => wpAny (model prog w) A (assign z env q) Q E s₂) E s₁) E s') : wpAny (model prog w) A (assign (.Tuple [x, y, z] k pos) env (.ref t)) Q E s := by
  refine assign_Tuple_tuple hh (isTup_of O hp) hn hstar fun h' hx => ?_
  rw [he]
  have O' := O.stays (t := s.toks) fun b o q => hx b o (Nat.ne_of_lt (Heap.lt_size q)) q
  exact assignInOrder_cons (wpAny_mono (h _ O') (fun _ s₁ z => assignInOrder_cons (wpAny_mono z (fun _ s₂ z => assignInOrder_cons (wpAny_mono z (fun _ _ z => assignInOrder_nil z) fun _ _ z => z)) fun _ _ z => z)) fun _ _ z => z)
end
end Mine
end

-- Law1
section
open PySem PySem.W PyProof.Rows PySem.Calls
set_option Elab.async false
set_option maxRecDepth 100000
set_option maxHeartbeats 2000000
set_option linter.unusedVariables false
namespace Mine
abbrev lawC (L : Addr) (found n table v start told steps row many level bound : Option Value) : List HP := [(L + 11, IsC bound), (L + 10, IsC level), (L + 9, IsC many), (L + 8, IsC row), (L + 7, IsC steps), (L + 6, IsC told), (L + 5, IsC start), (L + 4, IsC v), (L + 3, IsC table), (L + 2, IsC n), (L + 1, IsC found)]
section
variable {prog : Program} {w : World} {A : Around} {E : Value → Shared → Prop} {σ s : Shared} {env : Env} {ps r r' : List HP} {mg mb m : Str → Option Value} {L sa : Addr} {k : Nat}
theorem law_1 {vs : List Value} {xs : List Int} {Q : Flow → Shared → Prop} (X : PF (KF w) σ mg mb) (hr : Room A (k + 4)) (O : Own σ ((L, IsNs m) :: (lawC L none none none none none none none none none none none ++ ps)) s)
    (hm : m "script" = some (.ref sa)) (hs : σ.heap.IsList sa vs.toArray) (hi : IntsAre vs xs) (hz : vs.length ≤ 1000)
    (h : ∀ fa fs ta rt (n : Nat) tn ow M m' s', fs.length = 7 → 1 ≤ n → n ≤ 6 → (∀ u v, M u v = 0 ∨ M u v = 1) → (ow = false → ∀ u v, M u v = M v u) → m' "oneway" = some (.bool ow) →
      Own σ ((L, IsNs m') :: (lawC L (some (.ref fa)) (some (.int n tn)) (some (.ref ta)) none none none none none none none none ++ ((ta, IsL (tabL rt n)) :: (rowsHP M rt n ++ ((fa, IsI fs) :: ps))))) s' → Q .next s') :
    wpAny (model prog w) A (execs (lawB w).1.1 (lawEnv w L)) Q E s := by
  refine wpAny_execs_cons (wpAny_Assign_Name (wpAny_Call_NameR (r_glob X O ?_ (v := .ref 829))))
  refine callWith_K X.K (by rfl) (spliced_more (r_ld O (spliced_more (r_int O fun t1 s1 O1 => spliced_none ⟨O1.inK X, wpAny_call ?_⟩)) (hv := hm)))
  refine numbers X O1 hs hi hz (hr.less (m := k + 2) (by omega)) fun fa fs s2 hf O2 => ?_
  refine r_stC (c := L + 1) O2 (fun s3 O3 => ?_) (by repeat (first | exact Pick.here | apply Pick.there | apply Pick.right))
  refine wpAny_execs_cons (Assign_Tuple (wpAny_Call_NameR (r_glob X O3 ?_ (v := .ref 834))))
  refine callWith_K X.K (by rfl) (spliced_more (r_cell (c := L + 1) O3 (spliced_none ⟨O3.inK X, wpAny_call ?_⟩) .here))
  refine table_fn X (O3.to (qs := (fa, IsI fs) :: (L + 1, IsC (some (.ref fa))) :: (L, IsNs m) :: (L + 11, IsC none) :: (L + 10, IsC none) :: (L + 9, IsC none) :: (L + 8, IsC none) :: (L + 7, IsC none) :: (L + 6, IsC none) :: (L + 5, IsC none) :: (L + 4, IsC none) :: (L + 3, IsC none) :: (L + 2, IsC none) :: ps)) hf (hr.less (m := k + 2) (by omega)) fun tp ta rt n ow M tn s4 hn1 hn6 hM1 hM2 O4 => ?_
  refine r_unpack3 O4 hr.hh .here rfl rfl rfl fun s5 O5 => ?_
  refine wpAny_assign_Name (r_stC (c := L + 2) O5 (fun s6 O6 => ?_) (by repeat (first | exact Pick.here | apply Pick.there | apply Pick.right)))
  refine wpAny_assign_Name (r_st O6 (fun s7 O7 => ?_) (hp := by repeat (first | exact Pick.here | apply Pick.there | apply Pick.right)))
  refine wpAny_assign_Name (r_stC (c := L + 3) O7 (fun s8 O8 => ?_) (by repeat (first | exact Pick.here | apply Pick.there | apply Pick.right)))
  refine wpAny_execs_nil (h fa fs ta rt n tn ow M (upd m "oneway" (.bool ow)) s8 hf hn1 hn6 hM1 hM2 (upd_same _ _ _) ?_)
  exact O8.to
end
end Mine
end

-- Law2
section
open PySem PySem.W PyProof.Rows PySem.Calls
set_option Elab.async false
set_option maxRecDepth 100000
set_option maxHeartbeats 2000000
set_option linter.unusedVariables false
namespace Mine
/-- what a graph just built is -/
structure GB (C cp cpd fn : Addr) (nm : Str) (kvs : List (Str × Value)) (od nd : Addr) : Prop where
  gc : GC C cp cpd fn nm
  out : valueAt kvs nm = some (.ref od)
  adj : valueAt kvs "adj" = none
  node : valueAt kvs "_node" = some (.ref nd)
  len : kvs.length ≤ 5
/-- the parts of the law's second segment -/
noncomputable def lawP (w : World) : {p : Stmt × (Expr × Str × Pos × Expr × Pos × Pos) × (Expr × Str × Pos × Expr × Pos × Pos) × Stmt // (lawB w).1.2.1 = [p.1, .Expr (.Call (.Attribute p.2.1.1 p.2.1.2.1 p.2.1.2.2.1) [p.2.1.2.2.2.1] [] p.2.1.2.2.2.2.1) p.2.1.2.2.2.2.2,
    .Expr (.Call (.Attribute p.2.2.1.1 p.2.2.1.2.1 p.2.2.1.2.2.1) [p.2.2.1.2.2.2.1] [] p.2.2.1.2.2.2.2.1) p.2.2.1.2.2.2.2.2, p.2.2.2]} := ⟨(_, (_, _, _, _, _, _), (_, _, _, _, _, _), _), rfl⟩
theorem turn_nodes {n : Nat} (h1 : 1 ≤ n) (h6 : n ≤ 6) (f : Int) : ((rangeI n).map fun i => (f + i).fmod n).Nodup ∧ ∀ x, x ∈ ((rangeI n).map fun i => (f + i).fmod n) ↔ x ∈ rangeI n := by
  have hfe : ∀ a : Int, a.fmod n = a % n := fun a => Int.fmod_eq_emod_of_nonneg a (by omega)
  constructor
  · refine List.Pairwise.map _ (fun a b (hab : a ∈ rangeI n ∧ b ∈ rangeI n ∧ a ≠ b) e => ?_) (List.Pairwise.and_mem.mp (rangeI_nodup n))
    obtain ⟨ha, hb, hne⟩ := hab
    rw [hfe, hfe] at e
    obtain ⟨a0, a1⟩ := mem_rangeI.mp ha
    obtain ⟨b0, b1⟩ := mem_rangeI.mp hb
    apply hne
    have : n = 1 ∨ n = 2 ∨ n = 3 ∨ n = 4 ∨ n = 5 ∨ n = 6 := by omega
    rcases this with rfl | rfl | rfl | rfl | rfl | rfl <;> omega
  · intro x
    rw [List.mem_map]
    constructor
    · rintro ⟨i, _, rfl⟩
      rw [mem_rangeI, hfe]
      exact ⟨Int.emod_nonneg _ (by omega), Int.emod_lt_of_pos _ (by omega)⟩
    · intro hx
      obtain ⟨x0, x1⟩ := mem_rangeI.mp hx
      refine ⟨(x - f) % n, mem_rangeI.mpr ⟨Int.emod_nonneg _ (by omega), Int.emod_lt_of_pos _ (by omega)⟩, ?_⟩
      rw [hfe]
      have : n = 1 ∨ n = 2 ∨ n = 3 ∨ n = 4 ∨ n = 5 ∨ n = 6 := by omega
      rcases this with rfl | rfl | rfl | rfl | rfl | rfl <;> omega
section
variable {prog : Program} {w : World} {A : Around} {E : Value → Shared → Prop} {σ s : Shared} {env : Env} {ps r r1 r2 r3 : List HP} {mg mb m : Str → Option Value} {L fa ta : Addr} {k n : Nat} {f0 f1 f2 f3 f4 f5 f6 : Int} {rt : Int → Addr} {M : Int → Int → Int} {tn : Tok} {ow : Bool}
/-- the list of the nodes, as the law turns it -/
theorem nodes_comp {Q : Value → Shared → Prop} (X : PF (KF w) σ mg mb) (hh : A.handled = none) (hn1 : 1 ≤ n) (hn6 : n ≤ 6) (O : Own σ ps s) (hpn : Pick (L + 2) (IsC (some (.int n tn))) ps r1) (hpf : Pick (L + 1) (IsC (some (.ref fa))) ps r2) (hfa : Pick fa (IsI [f0, f1, f2, f3, f4, f5, f6]) ps r3)
    (h : ∀ la s', Own σ ((la, IsI ((rangeI n).map fun i => (f3 + i).fmod n)) :: ps) s' → Q (.ref la) s') : wpAny (model prog w) A (eval (lawP w).1.2.1.2.2.2.1 (lawEnv w L)) Q E s := by
  refine r_comp (σ := σ) (cl := [("n", L + 2), ("found", L + 1)]) (by rfl) (by decide) (by rfl) (by decide) ?_
  refine wpAny_Call_NameR (r_bltn X O ?_ (v := .type "range") (hv := by kernel_rfl))
  refine PyProof.Rows.callWith_type1 (spliced_more (r_cell (c := L + 2) O (spliced_none ?_) hpn))
  refine r_range O fun ra s1 O1 => ?_
  refine r_iterRange O1 .here (by omega) fun I s2 O2 => ?_
  refine ⟨I, _, _, rfl, O2, fun O' q => (iterRg (n := n)).self (i := 0) O' q, fun acc C s3 O3 => ?_⟩
  have O4 := O3.to (qs := (C, IsNs fun _ => none) :: (acc, IsL []) :: (I, IsRI ((0 : Nat) : Int) ((n : Int) - ((0 : Nat) : Int)) 1) :: ps)
  refine comp_last (xs := rangeI n) (It := fun j => IsRI j ((n : Int) - j) 1) (Need := fun _ => True) (i := 0) (outs := []) rfl rfl iterRg hh rfl rfl rfl (fun _ => True) (fun _ _ _ => trivial) (fun j outs => IntsAre outs (((rangeI n).map fun i => (f3 + i).fmod n).take j)) (fun j outs hI => by rw [ints_len hI, List.length_take, List.length_map, rangeI_len]; omega)
    (fun _ _ => ps) (fun _ _ _ => trivial) O4 trivial .nil (Nat.zero_le _) (fun j x t m2 outs s5 E5 hx _ hm2 hI O5 => ?_) (fun m2 outs s5 _ hI O5 => ?_)
  · refine wpAny_tests_nil ?_
    rw [if_pos rfl]
    refine wpAny_BinOp (wpAny_BinOp (Subscript_ (r_cell (c := L + 1) O5 (r_int O5 fun t6 s6 O6 => ?_) hpf.there.there.there)))
    refine r_subI O6 (fun t7 s7 O7 => ?_) (by decide) (by decide) (x := f3) rfl hfa.there.there.there
    refine r_ld O7 (r_add O7 fun t8 s8 O8 => ?_) (hv := hm2)
    refine r_cell (c := L + 2) O8 ?_ hpn.there.there.there
    refine r_mod O8 (by omega) fun t9 s9 O9 => ⟨?_, O9⟩
    rw [List.take_add_one, List.getElem?_map, hx]
    exact ints_snoc hI _ _
  · rw [rangeI_len, List.take_of_length_le (by rw [List.length_map, rangeI_len]; exact Nat.le_refl _)] at hI
    exact ⟨rfl, m2, _, O5, fun s6 O6 => h acc s6 (O6.closeI hI)⟩
end
end Mine
end

-- Law3
section
open PySem PySem.W PyProof.Rows PySem.Calls
set_option Elab.async false
set_option maxRecDepth 100000
set_option maxHeartbeats 2000000
set_option linter.unusedVariables false
namespace Mine
section
variable {prog : Program} {w : World} {A : Around} {E : Value → Shared → Prop} {R : Result → Shared → Prop} {s : Shared}
theorem compStart1 {elt iter0 iter target0 target : Expr} {ifs0 ifs : List Expr} {scope pos} {it acc : Value} {env : Env}
    (h0 : codeAny (model prog w) A (.compLoop (.ListComp elt [⟨target0, iter0, ifs0, 0⟩, ⟨target, iter, ifs, 0⟩] scope pos) 1 it acc env) R s)
    (h : wpAny (model prog w) A (pyIter it) (fun it' s' => codeAny (model prog w) A (.compLoop (.ListComp elt [⟨target0, iter0, ifs0, 0⟩, ⟨target, iter, ifs, 0⟩] scope pos) 1 it' acc env) R s')
      (notedBy (model prog w) A env fun x s' => R (.error x) s') s) :
    codeAny (model prog w) A (.compStart (.ListComp elt [⟨target0, iter0, ifs0, 0⟩, ⟨target, iter, ifs, 0⟩] scope pos) 1 it acc env) R s := by
  refine codeAny_of_tree ?_
  show wpAny _ _ ((compStart (.ListComp elt [⟨target0, iter0, ifs0, 0⟩, ⟨target, iter, ifs, 0⟩] scope pos) 1 it acc env).onRaise (fun x => do noteFrame x env; standAt theWindowsPlace)) _ _ s
  refine wpAny_notedAt ?_
  unfold compStart
  show wpAny _ _ (ask >>= _) _ _ s
  refine wpAny_bind (wpAny_askSetting (wpAny_ite ?_))
  split
  · first
      | exact wpAny_bind (wpAny_pure (wpAny_pure (And.intro rfl h0)))
      | exact wpAny_pure (And.intro rfl h0)
  · first
      | exact wpAny_bind (wpAny_rule (wpAny_bind (wpAny_standAt (wpAny_bind (wpAny_mono h (fun it' s' h' => wpAny_pure (And.intro rfl h')) fun _ _ x => x)))))
      | (refine wpAny_bind (wpAny_rule ?_); show wpAny _ _ (standAt iter.pos >>= _) _ _ s; exact wpAny_bind (wpAny_standAt (wpAny_bind (wpAny_mono h (fun it' s' h' => wpAny_pure (And.intro rfl h')) fun _ _ x => x))))
end
def edgesOf (M : Int → Int → Int) (us vs : List Int) : List (Int × Int) := us.flatMap fun u => (vs.filter fun v => M u v == 1).map fun v => (u, v)
theorem mem_edgesOf {M : Int → Int → Int} {us vs : List Int} {u v : Int} : (u, v) ∈ edgesOf M us vs ↔ u ∈ us ∧ v ∈ vs ∧ M u v = 1 := by
  unfold edgesOf
  rw [List.mem_flatMap]
  constructor
  · rintro ⟨a, ha, h⟩
    obtain ⟨b, hb, e⟩ := List.mem_map.mp h
    cases e
    obtain ⟨h1, h2⟩ := List.mem_filter.mp hb
    exact ⟨ha, h1, by simpa using h2⟩
  · rintro ⟨h1, h2, h3⟩
    exact ⟨u, h1, List.mem_map.mpr ⟨v, List.mem_filter.mpr ⟨h2, by simpa using h3⟩, rfl⟩⟩
theorem edgesOf_len {M : Int → Int → Int} {vs : List Int} : ∀ us : List Int, (edgesOf M us vs).length ≤ us.length * vs.length
  | [] => by simp [edgesOf]
  | u :: us => by
    have ih := edgesOf_len (M := M) (vs := vs) us
    have e : edgesOf M (u :: us) vs = ((vs.filter fun v => M u v == 1).map fun v => (u, v)) ++ edgesOf M us vs := by simp [edgesOf]
    rw [e, List.length_append, List.length_map, List.length_cons, Nat.add_mul]
    have := List.length_filter_le (fun v => M u v == 1) vs
    omega
abbrev zfamT (es : List (Int × Int)) (outs : List Value) : List HP := (es.zip outs).map fun p => (refOf p.2, IsT2 p.1.1 p.1.2)
theorem zfamT_snoc {es : List (Int × Int)} {outs : List Value} {u v : Int} {a : Addr} (h : es.length = outs.length) : zfamT (es ++ [(u, v)]) (outs ++ [.ref a]) = zfamT es outs ++ [(a, IsT2 u v)] := by
  unfold zfamT
  rw [List.zip_append h, List.map_append]
  rfl
theorem zfamT_efam {es : List (Int × Int)} {outs : List Value} (hl : outs.length = es.length) (hr : ∀ v ∈ outs, ∃ a, v = .ref a) :
    ∃ ts : List (Addr × Int × Int), zfamT es outs = efam ts ∧ outs = (ts.map fun e => .ref e.1) ∧ ts.map (·.2) = es := by
  refine ⟨(es.zip outs).map fun p => (refOf p.2, p.1), ?_, ?_, ?_⟩
  · unfold zfamT efam
    rw [List.map_map]
    rfl
  · rw [List.map_map]
    refine List.ext_getElem (by simp [hl]) fun i h1 h2 => ?_
    obtain ⟨a, ha⟩ := hr _ (List.getElem_mem h1)
    simp [ha, refOf]
  · rw [List.map_map]
    refine List.ext_getElem (by simp [hl]) fun i h1 h2 => ?_
    simp
section
variable {prog : Program} {w : World} {A : Around} {E : Value → Shared → Prop} {σ s : Shared} {env : Env} {ps r r1 r2 r3 r4 : List HP} {mg mb m : Str → Option Value} {L fa ta : Addr} {k n : Nat} {rt : Int → Addr} {M : Int → Int → Int} {tn : Tok}
theorem edges_comp {Q : Value → Shared → Prop} (X : PF (KF w) σ mg mb) (hh : A.handled = none) (hn1 : 1 ≤ n) (hn6 : n ≤ 6) (O : Own σ ps s) (hpn : Pick (L + 2) (IsC (some (.int n tn))) ps r1) (hpt : Pick (L + 3) (IsC (some (.ref ta))) ps r2) (hta : Pick ta (IsL (tabL rt n)) ps r3)
    (hrows : ∀ u ∈ rangeI n, ∃ r, Pick (rt u) (IsI ((rangeI n).map (M u))) ps r)
    (h : ∀ el es s', (∀ u v, (∃ e ∈ es, e.2.1 = u ∧ e.2.2 = v) ↔ u ∈ rangeI n ∧ v ∈ rangeI n ∧ M u v = 1) → Own σ ((el, IsL (es.map fun e => .ref e.1)) :: (efam es ++ ps)) s' → Q (.ref el) s') : wpAny (model prog w) A (eval (lawP w).1.2.2.1.2.2.2.1 (lawEnv w L)) Q E s := by
  refine r_comp (σ := σ) (cl := [("table", L + 3), ("n", L + 2)]) (by rfl) (by decide) (by rfl) (by decide) ?_
  refine wpAny_Call_NameR (r_bltn X O ?_ (v := .type "range") (hv := by kernel_rfl))
  refine PyProof.Rows.callWith_type1 (spliced_more (r_cell (c := L + 2) O (spliced_none ?_) hpn))
  refine r_range O fun ra s1 O1 => ?_
  refine r_iterRange O1 .here (by omega) fun I s2 O2 => ?_
  refine ⟨I, _, _, rfl, O2, fun O' q => (iterRg (n := n)).self (i := 0) O' q, fun acc C s3 O3 => ?_⟩
  have O4 := O3.to (qs := (C, IsNs fun _ => none) :: (acc, IsL []) :: (I, IsRI ((0 : Nat) : Int) ((n : Int) - ((0 : Nat) : Int)) 1) :: ps)
  have hlen : ∀ i, i ≤ n → (edgesOf M ((rangeI n).take i) (rangeI n)).length ≤ 36 := fun i hi => by
    have h1 := edgesOf_len (M := M) (vs := rangeI n) ((rangeI n).take i)
    rw [rangeI_len, List.length_take, rangeI_len] at h1
    have h2 : min i n * n ≤ 6 * 6 := Nat.mul_le_mul (by omega) hn6
    omega
  refine comp_outer (xs := rangeI n) (It := fun j => IsRI j ((n : Int) - j) 1) (Need := fun _ => True) (i := 0) (outs := []) iterRg hh rfl rfl rfl (fun i outs => i ≤ n ∧ outs.length = (edgesOf M ((rangeI n).take i) (rangeI n)).length ∧ ∀ v ∈ outs, ∃ a, v = .ref a)
    (fun i outs => zfamT (edgesOf M ((rangeI n).take i) (rangeI n)) outs ++ ps) (fun _ _ _ => trivial) O4 ⟨Nat.zero_le _, rfl, fun _ h => nomatch h⟩ (Nat.zero_le _) (fun i x t m2 outs s5 Q5 E5 hx hm2 hI O5 hnext => ?_) (fun m2 outs s5 hI O5 => ?_)
  · obtain ⟨hI1, hI2, hI3⟩ := hI
    obtain ⟨hxi, hin⟩ := rangeI_get hx
    have hxm : x ∈ rangeI n := List.mem_of_getElem? hx
    obtain ⟨hx0, hxn⟩ := mem_rangeI.mp hxm
    have gx : (rangeI n)[x.toNat]? = some x := by
      have e : x.toNat = i := by rw [hxi]; rfl
      rw [e]; exact hx
    refine wpAny_Call_NameR (r_bltn X O5 ?_ (v := .type "range") (hv := by kernel_rfl))
    refine PyProof.Rows.callWith_type1 (spliced_more (r_cell (c := L + 2) O5 (spliced_none ?_) (.there (.there (.there (.right hpn))))))
    refine r_range O5 fun ra2 s6 O6 => ?_
    refine r_iterRange O6 .here (by omega) fun I2 s7 O7 => ?_
    have O8 := O7.to (qs := (C, IsNs m2) :: (acc, IsL outs) :: (I2, IsRI ((0 : Nat) : Int) ((n : Int) - ((0 : Nat) : Int)) 1) :: (I, IsRI ((i + 1 : Nat) : Int) ((n : Int) - ((i + 1 : Nat) : Int)) 1) :: (zfamT (edgesOf M ((rangeI n).take i) (rangeI n)) outs ++ ps))
    have e0 : edgesOf M ((rangeI n).take i) (rangeI n) = edgesOf M ((rangeI n).take i) (rangeI n) ++ ((((rangeI n).take 0).filter fun v => M x v == 1).map fun v => (x, v)) := by simp
    refine (fun hl => compStart1 hl ((iterRg (n := n)).self (i := 0) (O8.to (qs := (I2, IsRI ((0 : Nat) : Int) ((n : Int) - ((0 : Nat) : Int)) 1) :: (C, IsNs m2) :: (acc, IsL outs) :: (I, IsRI ((i + 1 : Nat) : Int) ((n : Int) - ((i + 1 : Nat) : Int)) 1) :: (zfamT (edgesOf M ((rangeI n).take i) (rangeI n)) outs ++ ps))) hl)) ?_
    refine comp_last (xs := rangeI n) (It := fun j => IsRI j ((n : Int) - j) 1) (Need := fun _ => True) (i := 0) rfl rfl iterRg hh rfl rfl rfl (fun m => m "u" = some (.int x t)) (fun m v hm => upd_other (by decide) hm) (fun j outs => outs.length = (edgesOf M ((rangeI n).take i) (rangeI n) ++ ((((rangeI n).take j).filter fun v => M x v == 1).map fun v => (x, v))).length ∧ outs.length ≤ 100 ∧ ∀ v ∈ outs, ∃ a, v = .ref a) (fun j outs hI => by omega)
        (fun j outs => (I, IsRI ((i + 1 : Nat) : Int) ((n : Int) - ((i + 1 : Nat) : Int)) 1) :: (zfamT (edgesOf M ((rangeI n).take i) (rangeI n) ++ ((((rangeI n).take j).filter fun v => M x v == 1).map fun v => (x, v))) outs ++ ps)) (fun _ _ _ => trivial) (e0 ▸ O8) hm2 ⟨by simpa using hI2, by have := hlen i (by omega); omega, hI3⟩ (Nat.zero_le _) (fun j y t' m3 outs3 s9 E6 hy hu hm3 hI' O9 => ?_) (fun m3 outs3 s9 _ hI' O9 => ?_)
    · obtain ⟨hj1, hj2, hj3⟩ := hI'
      have hym : y ∈ rangeI n := List.mem_of_getElem? hy
      obtain ⟨hy0, hyn⟩ := mem_rangeI.mp hym
      have gy : (rangeI n)[y.toNat]? = some y := by
        obtain ⟨hyj, _⟩ := rangeI_get hy
        have e : y.toNat = j := by rw [hyj]; rfl
        rw [e]; exact hy
      have hINl : ((((rangeI n).take j).filter fun v => M x v == 1).map fun v => (x, v)).length ≤ 6 := by
        rw [List.length_map]
        have h1 := List.length_filter_le (fun v => M x v == 1) ((rangeI n).take j)
        rw [List.length_take, rangeI_len] at h1
        omega
      have hEl := hlen i (by omega)
      have hin' : ((((rangeI n).take (j + 1)).filter fun v => M x v == 1).map fun v => (x, v)) = ((((rangeI n).take j).filter fun v => M x v == 1).map fun v => (x, v)) ++ (if M x y == 1 then [(x, y)] else []) := by
        rw [List.take_add_one, hy, List.filter_append, List.map_append]
        congr 1
        cases hq : (M x y == 1) <;> simp [hq]
      refine wpAny_tests_one (wpAny_isTrue_Compare1 (Subscript_ (Subscript_ (r_cell (c := L + 3) O9 (r_ld O9 ?_ (hv := hu)) (.there (.there (.there (.there (.right hpt)))))))))
      refine r_subL (l := ta) (v := .ref (rt x)) O9 ?_ hx0 (by omega) (by rw [List.getElem?_map, gx]; rfl) (.there (.there (.there (.there (.right hta)))))
      obtain ⟨q1, hq1⟩ := hrows x hxm
      refine r_ld O9 ?_ (hv := hm3)
      refine r_subI (l := rt x) (x := M x y) O9 (fun t10 s10 O10 => ?_) hy0 (by omega) (by rw [List.getElem?_map, gy]; rfl) (.there (.there (.there (.there (.right hq1)))))
      refine r_int O10 fun t11 s11 O11 => r_eq (wpAny_truthy_bool ?_)
      cases hq : (M x y == 1) with
      | true =>
        rw [hq] at hin'
        rw [if_pos rfl] at hin' ⊢
        refine r_Tuple (spliced_more (r_ld O11 (spliced_more (r_ld O11 (spliced_none ?_) (hv := hm3))) (hv := hu)))
        refine r_newTuple O11 fun tp s12 O12 => ⟨⟨?_, ?_, fun v hv => ?_⟩, ?_⟩
        · rw [hin']
          simp only [List.length_append, List.length_cons, List.length_nil] at hj1 ⊢
          omega
        · rw [List.length_append] at hj1 ⊢
          simp only [List.length_cons, List.length_nil]
          omega
        · rcases List.mem_append.mp hv with z | z
          · exact hj3 v z
          · rw [List.mem_singleton] at z; exact ⟨tp, z⟩
        · rw [hin', ← List.append_assoc, zfamT_snoc hj1.symm]
          have O13 := O12.imp (P' := IsT2 x y) fun o ho => ⟨t, t', ho⟩
          exact Own.tailPerm (front := [(C, IsNs m3), (acc, IsL outs3), (I2, IsRI ((j + 1 : Nat) : Int) ((n : Int) - ((j + 1 : Nat) : Int)) 1), (I, IsRI ((i + 1 : Nat) : Int) ((n : Int) - ((i + 1 : Nat) : Int)) 1)]) O13 perm_in'
      | false =>
        rw [hq] at hin'
        rw [if_neg (by decide), List.append_nil] at hin'
        rw [if_neg (by decide)]
        rw [hin']
        exact ⟨⟨hj1, hj2, hj3⟩, O11⟩
    · obtain ⟨hj1, hj2, hj3⟩ := hI'
      obtain ⟨ht1, _⟩ := take_rangeI hin
      have hE : edgesOf M ((rangeI n).take (i + 1)) (rangeI n) = edgesOf M ((rangeI n).take i) (rangeI n) ++ ((((rangeI n).take (rangeI n).length).filter fun v => M x v == 1).map fun v => (x, v)) := by
        rw [ht1, List.take_length, hxi]
        simp [edgesOf]
      rw [← hE] at hj1 O9
      exact ⟨rfl, hnext m3 outs3 s9 ⟨hin, hj1, hj3⟩ O9⟩
  · rw [rangeI_len, List.take_of_length_le (by rw [rangeI_len]; exact Nat.le_refl _)] at hI O5
    obtain ⟨_, hI2, hI3⟩ := hI
    obtain ⟨ts, h1, h2, h3⟩ := zfamT_efam hI2 hI3
    rw [h1, h2] at O5
    refine ⟨rfl, m2, _, O5, fun s6 O6 => h acc ts s6 (fun u v => ?_) O6⟩
    rw [← mem_edgesOf (us := rangeI n) (vs := rangeI n), ← h3, List.mem_map]
    constructor
    · rintro ⟨e, he, rfl, rfl⟩; exact ⟨e, he, rfl⟩
    · rintro ⟨e, he, q⟩; exact ⟨e, he, by rw [q], by rw [q]⟩
end
end Mine
end

-- Law4
section
open PySem PySem.W PyProof.Rows PySem.Calls
set_option Elab.async false
set_option maxRecDepth 100000
set_option maxHeartbeats 2000000
set_option linter.unusedVariables false
namespace Mine
section
variable {prog : Program} {w : World} {A : Around} {E : Value → Shared → Prop} {σ s : Shared} {ps : List HP} {mg mb m : Str → Option Value} {L fa ta : Addr} {k n : Nat} {f0 f1 f2 f3 f4 f5 f6 : Int} {rt : Int → Addr} {M : Int → Int → Int} {tn : Tok} {ow : Bool}
theorem law_2 {Q : Flow → Shared → Prop} (X : PF (KF w) σ mg mb) (hr : Room A (k + 5)) (hn1 : 1 ≤ n) (hn6 : n ≤ 6) (hsym : ow = false → ∀ u v, M u v = M v u) (hm : m "oneway" = some (.bool ow))
    (O : Own σ ((L, IsNs m) :: (lawC L (some (.ref fa)) (some (.int n tn)) (some (.ref ta)) none none none none none none none none ++ ((ta, IsL (tabL rt n)) :: (rowsHP M rt n ++ ((fa, IsI [f0, f1, f2, f3, f4, f5, f6]) :: ps))))) s)
    (h : ∀ C cp cpd fn nm kvs g gd nd od ra rk N ts m' s', GB C cp cpd fn nm kvs od nd → N.Nodup → (∀ x, x ∈ N ↔ x ∈ rangeI n) → (∀ u v, v ∈ (rk u).map (·.1) ↔ u ∈ rangeI n ∧ v ∈ rangeI n ∧ M u v = 1) → m' "G" = some (.ref g) →
      Own σ ((L, IsNs m') :: (lawC L (some (.ref fa)) (some (.int n tn)) (some (.ref ta)) none (some (.int (f4.fmod n) ts)) none none none none none none ++
        ((g, IsO (plainObj C (some gd) #[])) :: (gd, IsS prog w kvs) :: (nd, IsDK prog w N) :: (od, IsD prog w (N.map fun u => (u, .ref (ra u)))) :: (rfam prog w rk ra N ++ ((ta, IsL (tabL rt n)) :: (rowsHP M rt n ++ ((fa, IsI [f0, f1, f2, f3, f4, f5, f6]) :: ps))))))) s' → Q .next s') :
    wpAny (model prog w) A (execs (lawB w).1.2.1 (lawEnv w L)) Q E s := by
  obtain ⟨hnd, hmem⟩ := turn_nodes hn1 hn6 f3
  refine wpAny_execs_cons (wpAny_Assign_Name (wpAny_IfExp (wpAny_isTrue_value (r_ld O (wpAny_truthy_bool ?_) (hv := hm)))))
  cases ow with
  | false =>
    refine wpAny_Call_NameR (r_glob X O ?_ (v := .ref 638))
    refine callWith_K0 (O.inK X) (by rfl) (wpAny_call (make_un X O (hr.less (m := k + 3) (by omega)) fun g gd gg nd od s1 O1 => ?_))
    refine r_st O1 (fun s2 O2 => ?_) (hp := (by repeat (first | exact Pick.here | apply Pick.there | apply Pick.right)))
    refine wpAny_execs_cons (wpAny_Expr_any (methodCall_KW (r_ld O2 ?_ (hv := upd_same _ _ _))))
    refine r_methI (f := 495) X O2 ?_ (hv := rfl)
    refine callWith_K X.K (by rfl) (spliced_more (nodes_comp X hr.hh hn1 hn6 O2 (by repeat (first | exact Pick.here | apply Pick.there | apply Pick.right)) (by repeat (first | exact Pick.here | apply Pick.there | apply Pick.right)) (by repeat (first | exact Pick.here | apply Pick.there | apply Pick.right)) fun la s3 O3 => spliced_none ⟨O3.inK X, wpAny_call ?_⟩))
    refine add_nodes_un X (O3.to (qs := (g, IsO (plainObj 638 (some gd) #[])) :: (gd, IsS prog w (kvsU gg nd od)) :: (nd, IsD prog w []) :: (od, IsD prog w []) :: (la, IsI ((rangeI n).map fun i => (f3 + i).fmod n)) :: (L, IsNs (upd m "G" (.ref g))) :: (L + 11, IsC none) :: (L + 10, IsC none) :: (L + 9, IsC none) :: (L + 8, IsC none) :: (L + 7, IsC none) :: (L + 6, IsC none) :: (L + 5, IsC none) :: (L + 4, IsC none) :: (L + 3, IsC (some (.ref ta))) :: (L + 2, IsC (some (.int n tn))) :: (L + 1, IsC (some (.ref fa))) :: (ta, IsL (tabL rt n)) :: (rowsHP M rt n ++ ((fa, IsI [f0, f1, f2, f3, f4, f5, f6]) :: ps)))) hnd (by rw [List.length_map, rangeI_len]; omega) (hr.less (m := k + 2) (by omega)) fun ra s4 O4 => ?_
    have O5 := O4.to (qs := (g, IsO (plainObj 638 (some gd) #[])) :: (gd, IsS prog w (kvsU gg nd od)) :: (nd, IsDK prog w ((rangeI n).map fun i => (f3 + i).fmod n)) :: (od, IsD prog w (((rangeI n).map fun i => (f3 + i).fmod n).map fun u => (u, .ref (ra u)))) :: (fam (fun _ => IsD prog w []) ra ((rangeI n).map fun i => (f3 + i).fmod n) ++ ((L, IsNs (upd m "G" (.ref g))) :: (L + 11, IsC none) :: (L + 10, IsC none) :: (L + 9, IsC none) :: (L + 8, IsC none) :: (L + 7, IsC none) :: (L + 6, IsC none) :: (L + 5, IsC none) :: (L + 4, IsC none) :: (L + 3, IsC (some (.ref ta))) :: (L + 2, IsC (some (.int n tn))) :: (L + 1, IsC (some (.ref fa))) :: (ta, IsL (tabL rt n)) :: (rowsHP M rt n ++ ((fa, IsI [f0, f1, f2, f3, f4, f5, f6]) :: ps)))))
    refine wpAny_execs_cons (wpAny_Expr_any (methodCall_KW (r_ld O5 ?_ (hv := upd_same _ _ _))))
    refine r_methI (f := 540) X O5 ?_ (hv := rfl)
    refine callWith_K X.K (by rfl) (spliced_more (edges_comp (M := M) (rt := rt) X hr.hh hn1 hn6 O5 (by repeat (first | exact Pick.here | apply Pick.there | apply Pick.right)) (by repeat (first | exact Pick.here | apply Pick.there | apply Pick.right)) (by repeat (first | exact Pick.here | apply Pick.there | apply Pick.right)) (fun u hu => ?_) fun el es s6 hes O6 => spliced_none ⟨O6.inK X, wpAny_call ?_⟩))
    · obtain ⟨q, hq⟩ := pick_famR (P := fun u => IsI ((rangeI n).map (M u))) (ra := rt) hu
      exact ⟨_, .there (.there (.there (.there (.right (.there (.there (.there (.there (.there (.there (.there (.there (.there (.there (.there (.there (.there (.left hq))))))))))))))))))⟩
    · have hes' : ∀ e ∈ es, e.2.1 ∈ ((rangeI n).map fun i => (f3 + i).fmod n) ∧ e.2.2 ∈ ((rangeI n).map fun i => (f3 + i).fmod n) := fun e he => by
        have := (hes e.2.1 e.2.2).mp ⟨e, he, rfl, rfl⟩
        exact ⟨(hmem _).mpr this.1, (hmem _).mpr this.2.1⟩
      refine add_edges_un X (O6.to (qs := (g, IsO (plainObj 638 (some gd) #[])) :: (gd, IsS prog w (kvsU gg nd od)) :: (nd, IsDK prog w ((rangeI n).map fun i => (f3 + i).fmod n)) :: (od, IsD prog w (((rangeI n).map fun i => (f3 + i).fmod n).map fun u => (u, .ref (ra u)))) :: (el, IsL (es.map fun e => .ref e.1)) :: (efam es ++ (fam (fun _ => IsD prog w []) ra ((rangeI n).map fun i => (f3 + i).fmod n) ++ ((L, IsNs (upd m "G" (.ref g))) :: (L + 11, IsC none) :: (L + 10, IsC none) :: (L + 9, IsC none) :: (L + 8, IsC none) :: (L + 7, IsC none) :: (L + 6, IsC none) :: (L + 5, IsC none) :: (L + 4, IsC none) :: (L + 3, IsC (some (.ref ta))) :: (L + 2, IsC (some (.int n tn))) :: (L + 1, IsC (some (.ref fa))) :: (ta, IsL (tabL rt n)) :: (rowsHP M rt n ++ ((fa, IsI [f0, f1, f2, f3, f4, f5, f6]) :: ps))))))) hnd (by rw [List.length_map, rangeI_len]; omega) hes' (hr.less (m := k + 2) (by omega)) fun rk s7 hrk O7 => ?_
      refine wpAny_execs_cons (wpAny_Assign_Name (wpAny_BinOp (Subscript_ (r_cell (c := L + 1) O7 (r_int O7 fun t8 s8 O8 => ?_) (by repeat (first | exact Pick.here | apply Pick.there | apply Pick.right))))))
      refine r_subI (l := fa) (x := f4) O8 (fun t9 s9 O9 => ?_) (by decide) (by decide) rfl (by repeat (first | exact Pick.here | apply Pick.there | apply Pick.right))
      refine r_cell (c := L + 2) O9 ?_ (by repeat (first | exact Pick.here | apply Pick.there | apply Pick.right))
      refine r_mod O9 (by omega) fun t10 s10 O10 => ?_
      refine r_stC (c := L + 5) O10 (fun s11 O11 => ?_) (by repeat (first | exact Pick.here | apply Pick.there | apply Pick.right))
      refine wpAny_execs_nil (h 638 452 451 450 "_adj" (kvsU gg nd od) g gd nd od ra rk ((rangeI n).map fun i => (f3 + i).fmod n) t10 (upd m "G" (.ref g)) s11 ⟨by constructor, rfl, rfl, rfl, by simp⟩ hnd hmem (fun u v => ?_) (upd_same _ _ _) ?_)
      · rw [hrk]
        constructor
        · rintro ⟨e, he, ⟨rfl, rfl⟩ | ⟨rfl, rfl⟩⟩
          · exact (hes _ _).mp ⟨e, he, rfl, rfl⟩
          · obtain ⟨a, b, c⟩ := (hes _ _).mp ⟨e, he, rfl, rfl⟩
            exact ⟨b, a, by rw [hsym rfl]; exact c⟩
        · intro q
          obtain ⟨e, he, h1, h2⟩ := (hes u v).mpr q
          exact ⟨e, he, .inl ⟨h1, h2⟩⟩
      · exact O11.to
  | true =>
    refine wpAny_Call_NameR (r_glob X O ?_ (v := .ref 814))
    refine callWith_K0 (O.inK X) (by rfl) (wpAny_call (make_di X O (hr.less (m := k + 3) (by omega)) fun g gd gg nd od pd s1 O1 => ?_))
    refine r_st O1 (fun s2 O2 => ?_) (hp := (by repeat (first | exact Pick.here | apply Pick.there | apply Pick.right)))
    refine wpAny_execs_cons (wpAny_Expr_any (methodCall_KW (r_ld O2 ?_ (hv := upd_same _ _ _))))
    refine r_methI (f := 705) X O2 ?_ (hv := rfl)
    refine callWith_K X.K (by rfl) (spliced_more (nodes_comp X hr.hh hn1 hn6 O2 (by repeat (first | exact Pick.here | apply Pick.there | apply Pick.right)) (by repeat (first | exact Pick.here | apply Pick.there | apply Pick.right)) (by repeat (first | exact Pick.here | apply Pick.there | apply Pick.right)) fun la s3 O3 => spliced_none ⟨O3.inK X, wpAny_call ?_⟩))
    refine add_nodes_di X (O3.to (qs := (g, IsO (plainObj 814 (some gd) #[])) :: (gd, IsS prog w (kvsD gg nd od pd)) :: (nd, IsD prog w []) :: (od, IsD prog w []) :: (pd, IsD prog w []) :: (la, IsI ((rangeI n).map fun i => (f3 + i).fmod n)) :: (L, IsNs (upd m "G" (.ref g))) :: (L + 11, IsC none) :: (L + 10, IsC none) :: (L + 9, IsC none) :: (L + 8, IsC none) :: (L + 7, IsC none) :: (L + 6, IsC none) :: (L + 5, IsC none) :: (L + 4, IsC none) :: (L + 3, IsC (some (.ref ta))) :: (L + 2, IsC (some (.int n tn))) :: (L + 1, IsC (some (.ref fa))) :: (ta, IsL (tabL rt n)) :: (rowsHP M rt n ++ ((fa, IsI [f0, f1, f2, f3, f4, f5, f6]) :: ps)))) hnd (by rw [List.length_map, rangeI_len]; omega) (hr.less (m := k + 2) (by omega)) fun ra pa s4 O4 => ?_
    have O5 := O4.to (qs := (g, IsO (plainObj 814 (some gd) #[])) :: (gd, IsS prog w (kvsD gg nd od pd)) :: (nd, IsDK prog w ((rangeI n).map fun i => (f3 + i).fmod n)) :: (od, IsD prog w (((rangeI n).map fun i => (f3 + i).fmod n).map fun u => (u, .ref (ra u)))) :: (pd, IsD prog w (((rangeI n).map fun i => (f3 + i).fmod n).map fun u => (u, .ref (pa u)))) :: (fam (fun _ => IsD prog w []) ra ((rangeI n).map fun i => (f3 + i).fmod n) ++ (fam (fun _ => IsD prog w []) pa ((rangeI n).map fun i => (f3 + i).fmod n) ++ ((L, IsNs (upd m "G" (.ref g))) :: (L + 11, IsC none) :: (L + 10, IsC none) :: (L + 9, IsC none) :: (L + 8, IsC none) :: (L + 7, IsC none) :: (L + 6, IsC none) :: (L + 5, IsC none) :: (L + 4, IsC none) :: (L + 3, IsC (some (.ref ta))) :: (L + 2, IsC (some (.int n tn))) :: (L + 1, IsC (some (.ref fa))) :: (ta, IsL (tabL rt n)) :: (rowsHP M rt n ++ ((fa, IsI [f0, f1, f2, f3, f4, f5, f6]) :: ps))))))
    refine wpAny_execs_cons (wpAny_Expr_any (methodCall_KW (r_ld O5 ?_ (hv := upd_same _ _ _))))
    refine r_methI (f := 726) X O5 ?_ (hv := rfl)
    refine callWith_K X.K (by rfl) (spliced_more (edges_comp (M := M) (rt := rt) X hr.hh hn1 hn6 O5 (by repeat (first | exact Pick.here | apply Pick.there | apply Pick.right)) (by repeat (first | exact Pick.here | apply Pick.there | apply Pick.right)) (by repeat (first | exact Pick.here | apply Pick.there | apply Pick.right)) (fun u hu => ?_) fun el es s6 hes O6 => spliced_none ⟨O6.inK X, wpAny_call ?_⟩))
    · obtain ⟨q, hq⟩ := pick_famR (P := fun u => IsI ((rangeI n).map (M u))) (ra := rt) hu
      exact ⟨_, .there (.there (.there (.there (.there (.right (.right (.there (.there (.there (.there (.there (.there (.there (.there (.there (.there (.there (.there (.there (.left hq))))))))))))))))))))⟩
    · have hes' : ∀ e ∈ es, e.2.1 ∈ ((rangeI n).map fun i => (f3 + i).fmod n) ∧ e.2.2 ∈ ((rangeI n).map fun i => (f3 + i).fmod n) := fun e he => by
        have := (hes e.2.1 e.2.2).mp ⟨e, he, rfl, rfl⟩
        exact ⟨(hmem _).mpr this.1, (hmem _).mpr this.2.1⟩
      refine add_edges_di X (O6.to (qs := (g, IsO (plainObj 814 (some gd) #[])) :: (gd, IsS prog w (kvsD gg nd od pd)) :: (nd, IsDK prog w ((rangeI n).map fun i => (f3 + i).fmod n)) :: (od, IsD prog w (((rangeI n).map fun i => (f3 + i).fmod n).map fun u => (u, .ref (ra u)))) :: (pd, IsD prog w (((rangeI n).map fun i => (f3 + i).fmod n).map fun u => (u, .ref (pa u)))) :: (el, IsL (es.map fun e => .ref e.1)) :: (efam es ++ (fam (fun _ => IsD prog w []) ra ((rangeI n).map fun i => (f3 + i).fmod n) ++ (fam (fun _ => IsD prog w []) pa ((rangeI n).map fun i => (f3 + i).fmod n) ++ ((L, IsNs (upd m "G" (.ref g))) :: (L + 11, IsC none) :: (L + 10, IsC none) :: (L + 9, IsC none) :: (L + 8, IsC none) :: (L + 7, IsC none) :: (L + 6, IsC none) :: (L + 5, IsC none) :: (L + 4, IsC none) :: (L + 3, IsC (some (.ref ta))) :: (L + 2, IsC (some (.int n tn))) :: (L + 1, IsC (some (.ref fa))) :: (ta, IsL (tabL rt n)) :: (rowsHP M rt n ++ ((fa, IsI [f0, f1, f2, f3, f4, f5, f6]) :: ps)))))))) hnd (by rw [List.length_map, rangeI_len]; omega) hes' (hr.less (m := k + 2) (by omega)) fun rk s7 hrk O7 => ?_
      refine wpAny_execs_cons (wpAny_Assign_Name (wpAny_BinOp (Subscript_ (r_cell (c := L + 1) O7 (r_int O7 fun t8 s8 O8 => ?_) (by repeat (first | exact Pick.here | apply Pick.there | apply Pick.right))))))
      refine r_subI (l := fa) (x := f4) O8 (fun t9 s9 O9 => ?_) (by decide) (by decide) rfl (by repeat (first | exact Pick.here | apply Pick.there | apply Pick.right))
      refine r_cell (c := L + 2) O9 ?_ (by repeat (first | exact Pick.here | apply Pick.there | apply Pick.right))
      refine r_mod O9 (by omega) fun t10 s10 O10 => ?_
      refine r_stC (c := L + 5) O10 (fun s11 O11 => ?_) (by repeat (first | exact Pick.here | apply Pick.there | apply Pick.right))
      refine wpAny_execs_nil (h 814 670 669 668 "_succ" (kvsD gg nd od pd) g gd nd od ra rk ((rangeI n).map fun i => (f3 + i).fmod n) t10 (upd m "G" (.ref g)) s11 ⟨by constructor, rfl, rfl, rfl, by simp⟩ hnd hmem (fun u v => ?_) (upd_same _ _ _) ?_)
      · rw [hrk]
        exact hes u v
      · exact O11.to
end
end Mine
end

-- Bp2
section
namespace Mine
/-- the pairs that a turn goes through -/
def pairsOfT (rowf : Int → List Int) (this : List Int) : List (Int × Int) := this.flatMap fun v => (rowf v).map fun w => (v, w)
def keysOf (P : List Ent) : List Int := P.map (·.1)
/-- the new nodes after some pairs, in order -/
def nx (P : List Ent) (D : List (Int × Int)) : List Int := D.foldl (fun acc p => if p.2 ∈ keysOf P ∨ p.2 ∈ acc then acc else acc ++ [p.2]) []
def prs (D : List (Int × Int)) (w : Int) : List Int := (D.filter fun p => p.2 = w).map (·.1)
def stOf (P : List Ent) (lvl : Int) (D : List (Int × Int)) : List Ent × List Int := (P ++ (nx P D).map fun w => (w, lvl, prs D w), nx P D)

theorem snocInd {α : Type} {motive : List α → Prop} (nil : motive []) (snoc : ∀ l a, motive l → motive (l ++ [a])) (l : List α) : motive l := by
  have h : ∀ l : List α, motive l.reverse := fun l => by
    induction l with
    | nil => exact nil
    | cons a l ih => rw [List.reverse_cons]; exact snoc _ _ ih
  have := h l.reverse
  rwa [List.reverse_reverse] at this
theorem nx_snoc (P : List Ent) (D : List (Int × Int)) (p : Int × Int) : nx P (D ++ [p]) = if p.2 ∈ keysOf P ∨ p.2 ∈ nx P D then nx P D else nx P D ++ [p.2] := by
  unfold nx; rw [List.foldl_append]; rfl
theorem nx_mem (P : List Ent) (w : Int) (D : List (Int × Int)) : w ∈ nx P D ↔ w ∉ keysOf P ∧ ∃ v, (v, w) ∈ D := by
  induction D using snocInd with
  | nil => simp [nx]
  | snoc D p ih =>
    rw [nx_snoc]
    obtain ⟨a, b⟩ := p
    dsimp only
    split
    · rename_i h
      rw [ih]
      constructor
      · rintro ⟨h1, v, h2⟩; exact ⟨h1, v, List.mem_append_left _ h2⟩
      · rintro ⟨h1, v, h2⟩
        rcases List.mem_append.mp h2 with q | q
        · exact ⟨h1, v, q⟩
        · rw [List.mem_singleton] at q
          cases q
          rcases h with h | h
          · exact absurd h h1
          · exact ih.mp h
    · rename_i h
      rw [List.mem_append, ih, List.mem_singleton]
      constructor
      · rintro (⟨h1, v, h2⟩ | rfl)
        · exact ⟨h1, v, List.mem_append_left _ h2⟩
        · exact ⟨fun q => h (.inl q), a, List.mem_append_right _ (.head _)⟩
      · rintro ⟨h1, v, h2⟩
        rcases List.mem_append.mp h2 with q | q
        · exact .inl ⟨h1, v, q⟩
        · rw [List.mem_singleton] at q
          cases q
          exact .inr rfl
theorem nx_nodup (P : List Ent) (D : List (Int × Int)) : (nx P D).Nodup := by
  induction D using snocInd with
  | nil => simp [nx]
  | snoc D p ih =>
    rw [nx_snoc]
    split
    · exact ih
    · rename_i h
      refine List.nodup_append.mpr ⟨ih, by simp, ?_⟩
      intro a ha b hb e
      rw [List.mem_singleton] at hb
      subst hb e
      exact h (.inr ha)
theorem prs_snoc (D : List (Int × Int)) (v w x : Int) : prs (D ++ [(v, w)]) x = if w = x then prs D x ++ [v] else prs D x := by
  unfold prs
  rw [List.filter_append, List.map_append]
  by_cases h : w = x <;> simp [h]
theorem entAt_none_iff {P : List Ent} {k : Int} : entAt P k = none ↔ k ∉ keysOf P := by
  constructor
  · intro h hm
    obtain ⟨e, he, rfl⟩ := List.mem_map.mp hm
    exact entAt_none h e he rfl
  · intro h
    unfold entAt
    rw [Option.map_eq_none_iff, List.find?_eq_none]
    intro e he q
    exact h (List.mem_map.mpr ⟨e, he, by simpa using q⟩)
/-- the state of a turn after some pairs, in closed form -/
theorem bstep_stOf {P : List Ent} {lvl : Int} {D : List (Int × Int)} {v w : Int} (hP : (keysOf P).Nodup) (hl : ∀ e ∈ P, e.2.1 < lvl) : bstep lvl v (stOf P lvl D) w = stOf P lvl (D ++ [(v, w)]) := by
  have hkeys : keysOf (stOf P lvl D).1 = keysOf P ++ nx P D := by
    unfold stOf keysOf
    rw [List.map_append, List.map_map]
    congr 1
    conv => rhs; rw [← List.map_id (nx P D)]
    rfl
  have hnd : (keysOf (stOf P lvl D).1).Nodup := by
    rw [hkeys]
    exact List.nodup_append.mpr ⟨hP, nx_nodup P D, fun a ha b hb e => ((nx_mem P b D).mp hb).1 (e ▸ ha)⟩
  by_cases hp : w ∈ keysOf P
  · -- an old node
    obtain ⟨⟨w', k, ps⟩, he, rfl⟩ := List.mem_map.mp hp
    dsimp only at hp ⊢
    have hent : entAt (stOf P lvl D).1 w' = some (k, ps) := entAt_mem hnd (List.mem_append_left _ he)
    have hk : k ≠ lvl := by have := hl _ he; dsimp only at this; omega
    have hb : bstep lvl v (stOf P lvl D) w' = stOf P lvl D := by unfold bstep; rw [hent]; exact if_neg hk
    rw [hb]
    unfold stOf
    have hn : nx P (D ++ [(v, w')]) = nx P D := by rw [nx_snoc, if_pos (.inl hp)]
    rw [hn]
    congr 2
    refine List.map_congr_left fun x hx => ?_
    have hne : w' ≠ x := fun e => ((nx_mem P x D).mp hx).1 (by rw [← e]; exact hp)
    rw [prs_snoc, if_neg hne]
  · by_cases hq : w ∈ nx P D
    · have hent : entAt (stOf P lvl D).1 w = some (lvl, prs D w) := entAt_mem hnd (List.mem_append_right _ (List.mem_map.mpr ⟨w, hq, rfl⟩))
      have hb : bstep lvl v (stOf P lvl D) w = (grow (stOf P lvl D).1 w v, (stOf P lvl D).2) := by unfold bstep; rw [hent]; exact if_pos rfl
      rw [hb]
      unfold stOf grow
      have hn : nx P (D ++ [(v, w)]) = nx P D := by rw [nx_snoc, if_pos (.inr hq)]
      rw [hn, List.map_append, List.map_map]
      congr 2
      · conv => rhs; rw [← List.map_id P]
        refine List.map_congr_left fun e he => ?_
        have : e.1 ≠ w := fun q => hp (q ▸ List.mem_map.mpr ⟨e, he, rfl⟩)
        simp [this]
      · refine List.map_congr_left fun x hx => ?_
        simp only [Function.comp]
        rw [prs_snoc]
        by_cases hxw : x = w
        · subst hxw; simp
        · rw [if_neg hxw, if_neg fun e => hxw e.symm]
    · have hent : entAt (stOf P lvl D).1 w = none := entAt_none_iff.mpr (by rw [hkeys, List.mem_append]; rintro (h | h); exact hp h; exact hq h)
      have hb : bstep lvl v (stOf P lvl D) w = ((stOf P lvl D).1 ++ [(w, lvl, [v])], (stOf P lvl D).2 ++ [w]) := by unfold bstep; rw [hent]
      rw [hb]
      unfold stOf
      have hn : nx P (D ++ [(v, w)]) = nx P D ++ [w] := by rw [nx_snoc, if_neg (by rintro (h | h); exact hp h; exact hq h)]
      rw [hn, List.map_append, ← List.append_assoc]
      dsimp only
      have h0 : prs D w = [] := by
        unfold prs
        rw [List.map_eq_nil_iff, List.filter_eq_nil_iff]
        rintro ⟨a, b⟩ hm e
        have e : b = w := by simpa using e
        subst e
        exact hq ((nx_mem P b D).mpr ⟨hp, a, hm⟩)
      congr 2
      · congr 1
        refine List.map_congr_left fun x hx => ?_
        have hne : w ≠ x := fun e => hq (by rw [e]; exact hx)
        rw [prs_snoc, if_neg hne]
      · simp [prs_snoc, h0]
theorem stOf_nil (P : List Ent) (lvl : Int) : stOf P lvl [] = (P, []) := by simp [stOf, nx]
theorem foldl_stOf {P : List Ent} {lvl v : Int} (hP : (keysOf P).Nodup) (hl : ∀ e ∈ P, e.2.1 < lvl) (ws : List Int) : ∀ D, ws.foldl (bstep lvl v) (stOf P lvl D) = stOf P lvl (D ++ ws.map fun w => (v, w)) := by
  induction ws with
  | nil => intro D; simp
  | cons w ws ih =>
    intro D
    rw [List.foldl_cons, bstep_stOf hP hl, ih]
    simp
theorem foldlN_stOf {P : List Ent} {lvl : Int} {rowf : Int → List Int} (hP : (keysOf P).Nodup) (hl : ∀ e ∈ P, e.2.1 < lvl) (vs : List Int) : ∀ D, vs.foldl (bnode rowf lvl) (stOf P lvl D) = stOf P lvl (D ++ pairsOfT rowf vs) := by
  induction vs with
  | nil => intro D; simp [pairsOfT]
  | cons v vs ih =>
    intro D
    rw [List.foldl_cons]
    unfold bnode
    rw [foldl_stOf hP hl]
    have := ih (D ++ (rowf v).map fun w => (v, w))
    unfold bnode at this
    rw [this]
    simp [pairsOfT]
theorem bturn_eq {P : List Ent} {lvl : Int} {rowf : Int → List Int} (hP : (keysOf P).Nodup) (hl : ∀ e ∈ P, e.2.1 < lvl) (this : List Int) : bturn rowf lvl P this = stOf P lvl (pairsOfT rowf this) := by
  unfold bturn
  have := foldlN_stOf (rowf := rowf) hP hl this []
  rw [stOf_nil] at this
  simpa using this
theorem mem_pairsOfT {rowf : Int → List Int} {this : List Int} {v w : Int} : (v, w) ∈ pairsOfT rowf this ↔ v ∈ this ∧ w ∈ rowf v := by
  unfold pairsOfT
  rw [List.mem_flatMap]
  constructor
  · rintro ⟨a, ha, h⟩
    obtain ⟨b, hb, e⟩ := List.mem_map.mp h
    cases e
    exact ⟨ha, hb⟩
  · rintro ⟨h1, h2⟩
    exact ⟨v, h1, List.mem_map.mpr ⟨w, h2, rfl⟩⟩
theorem pairs_nodup {rowf : Int → List Int} (hr : ∀ v, (rowf v).Nodup) : ∀ {this : List Int}, this.Nodup → (pairsOfT rowf this).Nodup
  | [], _ => by simp [pairsOfT]
  | v :: vs, hn => by
    obtain ⟨h1, h2⟩ := List.nodup_cons.mp hn
    have e : pairsOfT rowf (v :: vs) = ((rowf v).map fun w => (v, w)) ++ pairsOfT rowf vs := by simp [pairsOfT]
    rw [e]
    refine List.nodup_append.mpr ⟨?_, pairs_nodup hr h2, ?_⟩
    · exact List.Pairwise.map _ (fun a b hab q => hab (Prod.mk.inj q).2) (hr v)
    · rintro ⟨a, b⟩ ha ⟨c, d⟩ hc q
      cases q
      obtain ⟨w, _, q⟩ := List.mem_map.mp ha
      cases q
      exact h1 (mem_pairsOfT.mp hc).1
theorem prs_nodup {D : List (Int × Int)} (hD : D.Nodup) (w : Int) : (prs D w).Nodup := by
  unfold prs
  refine List.Pairwise.map _ ?_ (List.Pairwise.and_mem.mp (hD.filter _))
  rintro ⟨a, b⟩ ⟨c, d⟩ ⟨h1, h2, h3⟩ e
  have hb : b = w := by simpa using (List.mem_filter.mp h1).2
  have hd : d = w := by simpa using (List.mem_filter.mp h2).2
  dsimp only at e
  exact h3 (by rw [e, hb, hd])
theorem mem_prs {D : List (Int × Int)} {v w : Int} : v ∈ prs D w ↔ (v, w) ∈ D := by
  unfold prs
  rw [List.mem_map]
  constructor
  · rintro ⟨⟨a, b⟩, h, rfl⟩
    obtain ⟨h1, h2⟩ := List.mem_filter.mp h
    have : b = w := by simpa using h2
    subst this
    exact h1
  · intro h
    exact ⟨(v, w), List.mem_filter.mpr ⟨h, by simp⟩, rfl⟩
end Mine
end

-- Bp3
section
namespace Mine
theorem nodup_length {α : Type} [DecidableEq α] : ∀ {l m : List α}, l.Nodup → (∀ x ∈ l, x ∈ m) → l.length ≤ m.length
  | [], _, _, _ => Nat.zero_le _
  | x :: l, m, hn, hs => by
    obtain ⟨h1, h2⟩ := List.nodup_cons.mp hn
    have hx := hs x (.head _)
    have := nodup_length (l := l) (m := m.erase x) h2 fun y hy => (List.mem_erase_of_ne fun (e : y = x) => h1 (e ▸ hy)).mpr (hs y (.tail _ hy))
    rw [List.length_erase_of_mem hx] at this
    have := List.length_pos_of_mem hx
    simp only [List.length_cons]
    omega
structure BGood (N : List Int) (rowf : Int → List Int) (src l : Int) (P : List Ent) (this : List Int) : Prop where
  nd : (keysOf P).Nodup
  sub : ∀ x ∈ keysOf P, x ∈ N
  lv : ∀ e ∈ P, 0 ≤ e.2.1 ∧ e.2.1 ≤ l
  th : ∀ x, x ∈ this ↔ ∃ ps, (x, l, ps) ∈ P
  thnd : this.Nodup
  zero : ∀ e ∈ P, e.2.1 = 0 → e.1 = src ∧ e.2.2 = []
  pos : ∀ e ∈ P, 0 < e.2.1 → e.2.2.Nodup ∧ e.2.2 ≠ [] ∧ ∀ u, u ∈ e.2.2 ↔ (∃ qs, (u, e.2.1 - 1, qs) ∈ P) ∧ e.1 ∈ rowf u
  clos : ∀ e ∈ P, e.2.1 < l → ∀ w ∈ rowf e.1, ∃ k ps, (w, k, ps) ∈ P ∧ k ≤ e.2.1 + 1
  head : ∃ R, P = (src, 0, []) :: R
  len : this ≠ [] → l + 1 ≤ P.length
  l0 : 0 ≤ l
section
variable {N : List Int} {rowf : Int → List Int} {src l : Int} {P : List Ent} {this : List Int}
theorem BGood.init (hs : src ∈ N) : BGood N rowf src 0 [(src, 0, [])] [src] where
  nd := by simp [keysOf]
  sub := fun x hx => by simp [keysOf] at hx; exact hx ▸ hs
  lv := fun e he => by rw [List.mem_singleton] at he; subst he; exact ⟨Int.le_refl _, Int.le_refl _⟩
  th := fun x => by simp
  thnd := by simp
  zero := fun e he _ => by rw [List.mem_singleton] at he; subst he; exact ⟨rfl, rfl⟩
  pos := fun e he h => by rw [List.mem_singleton] at he; subst he; exact absurd h (by simp)
  clos := fun e he h => by rw [List.mem_singleton] at he; subst he; exact absurd h (by simp)
  head := ⟨[], rfl⟩
  len := fun _ => by simp
  l0 := Int.le_refl _
theorem mem_st {lvl : Int} {D : List (Int × Int)} {e : Ent} : e ∈ (stOf P lvl D).1 ↔ e ∈ P ∨ (e.1 ∈ nx P D ∧ e.2.1 = lvl ∧ e.2.2 = prs D e.1) := by
  unfold stOf
  rw [List.mem_append, List.mem_map]
  constructor
  · rintro (h | ⟨w, hw, rfl⟩)
    · exact .inl h
    · exact .inr ⟨hw, rfl, rfl⟩
  · rintro (h | ⟨h1, h2, h3⟩)
    · exact .inl h
    · exact .inr ⟨e.1, h1, by rw [← h2, ← h3]⟩
theorem keys_st {lvl : Int} {D : List (Int × Int)} : keysOf (stOf P lvl D).1 = keysOf P ++ nx P D := by
  unfold stOf keysOf
  rw [List.map_append, List.map_map]
  congr 1
  conv => rhs; rw [← List.map_id (nx P D)]
  rfl
theorem nd_st {lvl : Int} {D : List (Int × Int)} (h : (keysOf P).Nodup) : (keysOf (stOf P lvl D).1).Nodup := by
  rw [keys_st]
  exact List.nodup_append.mpr ⟨h, nx_nodup P D, fun a ha b hb e => ((nx_mem P b D).mp hb).1 (e ▸ ha)⟩
theorem BGood.lt (G : BGood N rowf src l P this) : ∀ e ∈ P, e.2.1 < l + 1 := fun e he => by have := (G.lv e he).2; omega
theorem key_ent {e : Ent} (he : e ∈ P) : e.1 ∈ keysOf P := List.mem_map.mpr ⟨e, he, rfl⟩
theorem BGood.thsub (G : BGood N rowf src l P this) : ∀ x ∈ this, x ∈ N := fun x hx => let ⟨_, h⟩ := (G.th x).mp hx; G.sub x (key_ent h)
theorem uniq (h : (keysOf P).Nodup) {w k k' : Int} {ps ps' : List Int} (h1 : (w, k, ps) ∈ P) (h2 : (w, k', ps') ∈ P) : k = k' ∧ ps = ps' := by
  have e1 := entAt_mem (e := (k, ps)) h h1
  have e2 := entAt_mem (e := (k', ps')) h h2
  rw [e1] at e2
  cases e2
  exact ⟨rfl, rfl⟩

theorem BGood.step (G : BGood N rowf src l P this) (hr : ∀ v, (rowf v).Nodup) (hN : ∀ u ∈ N, ∀ w ∈ rowf u, w ∈ N) : BGood N rowf src (l + 1) (bturn rowf (l + 1) P this).1 (bturn rowf (l + 1) P this).2 := by
  rw [bturn_eq G.nd G.lt]
  have hD := pairs_nodup hr G.thnd (rowf := rowf)
  have hmemD : ∀ {v w}, (v, w) ∈ pairsOfT rowf this ↔ v ∈ this ∧ w ∈ rowf v := mem_pairsOfT
  generalize pairsOfT rowf this = D at hD hmemD
  have hnew : ∀ w, w ∈ nx P D ↔ w ∉ keysOf P ∧ ∃ v, v ∈ this ∧ w ∈ rowf v := fun w => by rw [nx_mem]; simp only [hmemD]
  refine ⟨nd_st G.nd, fun x hx => ?_, fun e he => ?_, fun x => ?_, nx_nodup P D, fun e he h0 => ?_, fun e he hp => ?_, fun e he hlt w hw => ?_, ?_, fun hne => ?_, by have := G.l0; omega⟩
  · rw [keys_st, List.mem_append] at hx
    rcases hx with h | h
    · exact G.sub x h
    · obtain ⟨_, v, hv, hw⟩ := (hnew x).mp h
      exact hN v (G.thsub v hv) x hw
  · rcases mem_st.mp he with h | ⟨_, h2, _⟩
    · have := G.lv e h; omega
    · have := G.l0; omega
  · show x ∈ nx P D ↔ _
    constructor
    · intro h
      exact ⟨prs D x, mem_st.mpr (.inr ⟨h, rfl, rfl⟩)⟩
    · rintro ⟨ps, h⟩
      rcases mem_st.mp h with h | ⟨h1, _, _⟩
      · have := G.lv _ h; dsimp only at this; omega
      · exact h1
  · rcases mem_st.mp he with h | ⟨_, h2, _⟩
    · exact G.zero e h h0
    · have := G.l0; omega
  · rcases mem_st.mp he with h | ⟨h1, h2, h3⟩
    · obtain ⟨a, b, c⟩ := G.pos e h hp
      refine ⟨a, b, fun u => (c u).trans ⟨fun ⟨⟨qs, q⟩, r⟩ => ⟨⟨qs, mem_st.mpr (.inl q)⟩, r⟩, fun ⟨⟨qs, q⟩, r⟩ => ⟨⟨qs, ?_⟩, r⟩⟩⟩
      rcases mem_st.mp q with q | ⟨_, q2, _⟩
      · exact q
      · have := G.lv e h; dsimp only at q2; omega
    · obtain ⟨hk, v, hv, hw⟩ := (hnew e.1).mp h1
      rw [h3]
      refine ⟨prs_nodup hD e.1, fun q => ?_, fun u => ?_⟩
      · have : v ∈ prs D e.1 := mem_prs.mpr (hmemD.mpr ⟨hv, hw⟩)
        rw [q] at this; cases this
      · rw [mem_prs, hmemD, G.th u, h2]
        have e1 : l + 1 - 1 = l := by omega
        rw [e1]
        constructor
        · rintro ⟨⟨qs, q⟩, r⟩; exact ⟨⟨qs, mem_st.mpr (.inl q)⟩, r⟩
        · rintro ⟨⟨qs, q⟩, r⟩
          refine ⟨⟨qs, ?_⟩, r⟩
          rcases mem_st.mp q with q | ⟨_, q2, _⟩
          · exact q
          · dsimp only at q2; omega
  · rcases mem_st.mp he with h | ⟨_, h2, _⟩
    · by_cases hl : e.2.1 < l
      · obtain ⟨k, ps, a, b⟩ := G.clos e h hl w hw
        exact ⟨k, ps, mem_st.mpr (.inl a), b⟩
      · have hel : e.2.1 = l := by have := (G.lv e h).2; omega
        have hth : e.1 ∈ this := (G.th e.1).mpr ⟨e.2.2, by rw [← hel]; exact h⟩
        by_cases hk : w ∈ keysOf P
        · obtain ⟨⟨w', k, ps⟩, a, rfl⟩ := List.mem_map.mp hk
          refine ⟨k, ps, mem_st.mpr (.inl a), ?_⟩
          have := (G.lv _ a).2
          dsimp only at this
          omega
        · exact ⟨l + 1, prs D w, mem_st.mpr (.inr ⟨(hnew w).mpr ⟨hk, e.1, hth, hw⟩, rfl, rfl⟩), by omega⟩
    · omega
  · obtain ⟨R, hR⟩ := G.head
    exact ⟨R ++ (nx P D).map fun w => (w, l + 1, prs D w), by unfold stOf; rw [hR]; rfl⟩
  · have hne : nx P D ≠ [] := hne
    have : this ≠ [] := fun q => by
      obtain ⟨x, hx⟩ := List.exists_mem_of_ne_nil _ hne
      obtain ⟨_, v, hv, _⟩ := (hnew x).mp hx
      rw [q] at hv; cases hv
    have h1 := G.len this
    have h2 : 0 < (nx P D).length := List.length_pos_iff.mpr hne
    unfold stOf
    simp only [List.length_append, List.length_map]
    push_cast
    omega
end
end Mine
end

-- Bp4
section
namespace Mine
section
variable {N : List Int} {rowf : Int → List Int} {src l : Int} {P : List Ent} {this : List Int}
theorem BGood.predsN (G : BGood N rowf src l P this) : ∀ e ∈ P, e.2.2.length ≤ N.length := fun e he => by
  have h := G.lv e he
  by_cases h0 : e.2.1 = 0
  · rw [(G.zero e he h0).2]; exact Nat.zero_le _
  · obtain ⟨a, _, c⟩ := G.pos e he (by omega)
    refine nodup_length a fun u hu => ?_
    obtain ⟨⟨qs, q⟩, _⟩ := (c u).mp hu
    exact G.sub u (key_ent q)
theorem BGood.lenN (G : BGood N rowf src l P this) : P.length ≤ N.length := by
  have := nodup_length G.nd G.sub
  rwa [keysOf, List.length_map] at this
/-- a state in the midst of a turn is of a size -/
theorem BGood.part (G : BGood N rowf src l P this) (hr : ∀ v, (rowf v).Nodup) (hN : ∀ u ∈ N, ∀ w ∈ rowf u, w ∈ N) (hz : N.length ≤ 1000) {D D' : List (Int × Int)} (hD : pairsOfT rowf this = D ++ D') : bok (stOf P (l + 1) D) := by
  have hnd : D.Nodup := (List.nodup_append.mp (hD ▸ pairs_nodup hr G.thnd)).1
  have hmem : ∀ p ∈ D, p.1 ∈ this ∧ p.2 ∈ rowf p.1 := fun p hp => mem_pairsOfT.mp (by rw [hD]; exact List.mem_append_left _ hp)
  have hnx : ∀ w ∈ nx P D, w ∈ N := fun w hw => by
    obtain ⟨_, v, hv⟩ := (nx_mem P w D).mp hw
    obtain ⟨h1, h2⟩ := hmem _ hv
    exact hN v (G.thsub v h1) w h2
  have hkeys := nd_st (lvl := l + 1) (D := D) G.nd
  refine ⟨hkeys, ?_, ?_, fun e he => ?_⟩
  · have := nodup_length hkeys (m := N) fun x hx => by
      rw [keys_st, List.mem_append] at hx
      exact hx.elim (G.sub x) (hnx x)
    rw [keysOf, List.length_map] at this
    omega
  · have := nodup_length (nx_nodup P D) hnx
    show (nx P D).length ≤ 1000
    omega
  · rcases mem_st.mp he with h | ⟨_, _, h3⟩
    · have := G.predsN e h; omega
    · rw [h3]
      have := nodup_length (m := N) (prs_nodup hnd e.1) fun v hv => G.thsub v (hmem _ (mem_prs.mp hv)).1
      omega
theorem BGood.okTurn (G : BGood N rowf src l P this) (hr : ∀ v, (rowf v).Nodup) (hN : ∀ u ∈ N, ∀ w ∈ rowf u, w ∈ N) (hz : N.length ≤ 1000) : okTurn rowf (l + 1) (P, []) this := fun a v c e p q hpq => by
  have h1 := foldlN_stOf (rowf := rowf) (lvl := l + 1) G.nd G.lt a []
  rw [stOf_nil] at h1
  rw [h1, foldl_stOf G.nd G.lt]
  refine G.part hr hN hz (D' := (q.map fun w => (v, w)) ++ pairsOfT rowf c) ?_
  rw [e]
  unfold pairsOfT
  rw [List.flatMap_append, List.flatMap_cons, hpq]
  simp
theorem BGood.bokBfs {cut : Option Int} (hr : ∀ v, (rowf v).Nodup) (hN : ∀ u ∈ N, ∀ w ∈ rowf u, w ∈ N) (hz : N.length ≤ 1000) : ∀ (k : Nat) {l : Int} {P : List Ent} {this : List Int}, BGood N rowf src l P this → 1 ≤ k → (N.length : Int) + 1 ≤ l + k → bokBfs rowf N cut k l P this
  | 0, _, _, _, _, h, _ => absurd h (by decide)
  | k + 1, l, P, [], _, _, _ => trivial
  | k + 1, l, P, v :: vs, G, _, h => by
    have hl := G.len (by simp)
    have hlN := G.lenN
    refine ⟨?_, G.thsub, G.okTurn hr hN hz, fun _ => BGood.bokBfs hr hN hz k (G.step hr hN) ?_ ?_⟩
    · have := nodup_length G.thnd G.thsub; omega
    · push_cast at h; omega
    · push_cast at h ⊢; omega
/-- where the search ends -/
theorem bfs_end (hr : ∀ v, (rowf v).Nodup) (hN : ∀ u ∈ N, ∀ w ∈ rowf u, w ∈ N) : ∀ (k : Nat) {l : Int} {P : List Ent} {this : List Int}, BGood N rowf src l P this → 1 ≤ k → (N.length : Int) + 1 ≤ l + k → ∃ l', BGood N rowf src l' (bfs rowf none k l P this) []
  | 0, _, _, _, _, h, _ => absurd h (by decide)
  | k + 1, l, P, [], G, _, _ => ⟨l, G⟩
  | k + 1, l, P, v :: vs, G, _, h => by
    have hl := G.len (by simp)
    have hlN := G.lenN
    exact bfs_end hr hN k (G.step hr hN) (by push_cast at h; omega) (by push_cast at h ⊢; omega)
/-- the search goes on behind what it has -/
theorem bfs_more (hr : ∀ v, (rowf v).Nodup) (hN : ∀ u ∈ N, ∀ w ∈ rowf u, w ∈ N) : ∀ (k : Nat) {l : Int} {P : List Ent} {this : List Int}, BGood N rowf src l P this → ∃ R, bfs rowf none k l P this = P ++ R ∧ ∀ e ∈ R, l < e.2.1
  | 0, _, _, _, _ => ⟨[], by simp [bfs], fun _ h => nomatch h⟩
  | k + 1, l, P, [], _ => ⟨[], by simp [bfs], fun _ h => nomatch h⟩
  | k + 1, l, P, v :: vs, G => by
    obtain ⟨R, h1, h2⟩ := bfs_more hr hN k (G.step hr hN)
    have e : bfs rowf none (k + 1) l P (v :: vs) = bfs rowf none k (l + 1) (bturn rowf (l + 1) P (v :: vs)).1 (bturn rowf (l + 1) P (v :: vs)).2 := rfl
    rw [e, h1]
    rw [bturn_eq G.nd G.lt]
    unfold stOf
    dsimp only
    rw [List.append_assoc]
    refine ⟨_, rfl, fun e he => ?_⟩
    rcases List.mem_append.mp he with h | h
    · obtain ⟨w, _, rfl⟩ := List.mem_map.mp h
      dsimp only; omega
    · have := h2 e h; omega
/-- the search with a cutoff: what the whole search has up to there -/
theorem bfs_cut {c : Int} (hr : ∀ v, (rowf v).Nodup) (hN : ∀ u ∈ N, ∀ w ∈ rowf u, w ∈ N) : ∀ (k : Nat) {l : Int} {P : List Ent} {this : List Int}, BGood N rowf src l P this → l < c → bfs rowf (some c) k l P this = (bfs rowf none k l P this).filter fun e => e.2.1 ≤ c
  | 0, l, P, _, G, h => by
    rw [bfs, bfs, List.filter_eq_self.mpr]
    intro e he
    have := (G.lv e he).2
    simp; omega
  | k + 1, l, P, [], G, h => by
    rw [bfs, bfs, List.filter_eq_self.mpr]
    intro e he
    have := (G.lv e he).2
    simp; omega
  | k + 1, l, P, v :: vs, G, h => by
    have e : bfs rowf none (k + 1) l P (v :: vs) = bfs rowf none k (l + 1) (bturn rowf (l + 1) P (v :: vs)).1 (bturn rowf (l + 1) P (v :: vs)).2 := rfl
    have e2 : bfs rowf (some c) (k + 1) l P (v :: vs) = if cutsAt (some c) (l + 1) then (bturn rowf (l + 1) P (v :: vs)).1 else bfs rowf (some c) k (l + 1) (bturn rowf (l + 1) P (v :: vs)).1 (bturn rowf (l + 1) P (v :: vs)).2 := rfl
    have G' := G.step hr hN
    rw [e, e2]
    have h0 := G.l0
    by_cases hc : c ≤ l + 1
    · have hcc : c = l + 1 := by omega
      have : cutsAt (some c) (l + 1) = true := by unfold cutsAt; simp [hc]; omega
      rw [this, if_pos rfl]
      obtain ⟨R, h1, h2⟩ := bfs_more hr hN k G'
      rw [h1, List.filter_append, List.filter_eq_self.mpr, List.filter_eq_nil_iff.mpr]
      · simp
      · intro e he
        have := h2 e he
        simp; omega
      · intro e he
        have := (G'.lv e he).2
        simp; omega
    · have : cutsAt (some c) (l + 1) = false := by unfold cutsAt; simp; omega
      rw [this]
      exact bfs_cut hr hN k G' (by omega)
end
end Mine
end

-- Bp5
section
namespace Mine
theorem perm_of_mem {α : Type} [DecidableEq α] : ∀ {l m : List α}, l.Nodup → m.Nodup → (∀ x, x ∈ l ↔ x ∈ m) → l.Perm m
  | [], m, _, _, h => by
    have : m = [] := List.eq_nil_iff_forall_not_mem.mpr fun x hx => by have := (h x).mpr hx; cases this
    rw [this]
  | x :: l, m, hl, hm, h => by
    obtain ⟨h1, h2⟩ := List.nodup_cons.mp hl
    have hx := (h x).mp (.head _)
    refine List.Perm.trans (List.Perm.cons x (perm_of_mem h2 (hm.erase x) fun y => ?_)) (List.perm_cons_erase hx).symm
    rw [hm.mem_erase_iff]
    constructor
    · intro hy
      exact ⟨fun e => h1 (e ▸ hy), (h y).mp (.tail _ hy)⟩
    · rintro ⟨hne, hy⟩
      rcases List.mem_cons.mp ((h y).mpr hy) with q | q
      · exact absurd q hne
      · exact q
theorem sorted_eq : ∀ {l m : List Int}, l.Perm m → l.Pairwise (· ≤ ·) → m.Pairwise (· ≤ ·) → l = m
  | [], m, h, _, _ => (List.nil_perm.mp h).symm ▸ rfl
  | x :: l, [], h, _, _ => by have := h.length_eq; simp at this
  | x :: l, y :: m, h, hl, hm => by
    obtain ⟨a1, a2⟩ := List.pairwise_cons.mp hl
    obtain ⟨b1, b2⟩ := List.pairwise_cons.mp hm
    have hxy : x = y := by
      have h1 : x ∈ y :: m := h.mem_iff.mp (.head _)
      have h2 : y ∈ x :: l := h.mem_iff.mpr (.head _)
      have c1 : y ≤ x := by
        rcases List.mem_cons.mp h1 with q | q
        · omega
        · exact b1 x q
      have c2 : x ≤ y := by
        rcases List.mem_cons.mp h2 with q | q
        · omega
        · exact a1 y q
      omega
    subst hxy
    rw [sorted_eq h.cons_inv a2 b2]
theorem perm_sum {l m : List Int} (h : l.Perm m) : l.sum = m.sum := by
  induction h with
  | nil => rfl
  | cons x _ ih => simp [ih]
  | swap x y l => simp only [List.sum_cons]; omega
  | trans _ _ h1 h2 => exact h1.trans h2
theorem sum_off {f : Int → Int} {ps : List Int} : ∀ {L : List Int}, (∀ u ∈ L, u ∉ ps → f u = 0) → (L.map f).sum = ((L.filter fun u => decide (u ∈ ps)).map f).sum
  | [], _ => rfl
  | u :: L, h => by
    have ih := sum_off (L := L) fun x hx => h x (.tail _ hx)
    by_cases hu : u ∈ ps
    · simp [hu, ih]
    · have := h u (.head _) hu
      simp [hu, ih, this]
theorem sum_pos_ex {f : Int → Int} : ∀ {L : List Int}, 0 < (L.map f).sum → ∃ u ∈ L, 0 < f u
  | [], h => absurd h (by simp)
  | u :: L, h => by
    simp only [List.map_cons, List.sum_cons] at h
    by_cases hu : 0 < f u
    · exact ⟨u, .head _, hu⟩
    · obtain ⟨x, hx, q⟩ := sum_pos_ex (f := f) (L := L) (by omega)
      exact ⟨x, .tail _ hx, q⟩
theorem sum_nonneg {f : Int → Int} : ∀ {L : List Int}, (∀ u ∈ L, 0 ≤ f u) → 0 ≤ (L.map f).sum
  | [], _ => by simp
  | u :: L, h => by
    have := sum_nonneg (L := L) fun x hx => h x (.tail _ hx)
    have := h u (.head _)
    simp only [List.map_cons, List.sum_cons]; omega
theorem sum_ge {f : Int → Int} : ∀ {L : List Int} {u : Int}, (∀ u ∈ L, 0 ≤ f u) → u ∈ L → f u ≤ (L.map f).sum
  | x :: L, u, h, hu => by
    have h0 := sum_nonneg (L := L) fun x hx => h x (.tail _ hx)
    have h1 := h x (.head _)
    simp only [List.map_cons, List.sum_cons]
    rcases List.mem_cons.mp hu with rfl | hu
    · omega
    · have := sum_ge (fun x hx => h x (.tail _ hx)) hu
      omega

/-- the number of walks of a length -/
def Rw (L : List Int) (M : Int → Int → Int) (src : Int) : Nat → Int → Int
  | 0, v => if v = src then 1 else 0
  | k + 1, v => (L.map fun u => Rw L M src k u * M u v).sum

/-- a search that is done, over a table -/
structure BDone (L : List Int) (M : Int → Int → Int) (rowf : Int → List Int) (src : Int) (P : List Ent) : Prop where
  good : ∃ l, BGood L rowf src l P []
  adj : ∀ u w, w ∈ rowf u ↔ u ∈ L ∧ w ∈ L ∧ M u w = 1
  bit : ∀ u v, M u v = 0 ∨ M u v = 1
  nd : L.Nodup
section
variable {L : List Int} {M : Int → Int → Int} {rowf : Int → List Int} {src : Int} {P : List Ent}
theorem BDone.close (B : BDone L M rowf src P) : ∀ e ∈ P, ∀ w ∈ rowf e.1, ∃ k ps, (w, k, ps) ∈ P ∧ k ≤ e.2.1 + 1 := fun e he w hw => by
  obtain ⟨l, G⟩ := B.good
  refine G.clos e he ?_ w hw
  have h1 := (G.lv e he).2
  have h2 : e.2.1 ≠ l := fun q => by
    have := (G.th e.1).mpr ⟨e.2.2, by rw [← q]; exact he⟩
    cases this
  omega
theorem BDone.keys (B : BDone L M rowf src P) : (keysOf P).Nodup := B.good.choose_spec.nd
theorem Rw_nonneg (B : BDone L M rowf src P) : ∀ k v, 0 ≤ Rw L M src k v
  | 0, v => by unfold Rw; split <;> omega
  | k + 1, v => by
    unfold Rw
    refine sum_nonneg fun u _ => ?_
    have := Rw_nonneg B k u
    rcases B.bit u v with h | h <;> rw [h] <;> omega
theorem BDone.reach (B : BDone L M rowf src P) : ∀ k v, v ∈ L → 0 < Rw L M src k v → ∃ j ps, (v, j, ps) ∈ P ∧ j ≤ (k : Int)
  | 0, v, _, h => by
    unfold Rw at h
    split at h
    · rename_i e
      obtain ⟨R, hR⟩ := B.good.choose_spec.head
      exact ⟨0, [], by rw [hR, e]; exact .head _, by simp⟩
    · omega
  | k + 1, v, hv, h => by
    unfold Rw at h
    obtain ⟨u, hu, hp⟩ := sum_pos_ex h
    have h0 := Rw_nonneg B k u
    have hM : M u v = 1 := by
      rcases B.bit u v with q | q
      · rw [q] at hp; omega
      · exact q
    rw [hM] at hp
    obtain ⟨j, qs, hj, hjk⟩ := BDone.reach B k u hu (by omega)
    obtain ⟨k', ps, h1, h2⟩ := B.close _ hj v ((B.adj u v).mpr ⟨hu, hv, hM⟩)
    dsimp only at h2
    exact ⟨k', ps, h1, by push_cast; omega⟩
theorem BDone.pos (B : BDone L M rowf src P) : ∀ (k : Nat) v ps, (v, (k : Int), ps) ∈ P → 0 < Rw L M src k v
  | 0, v, ps, h => by
    have := (B.good.choose_spec.zero _ h rfl).1
    dsimp only at this
    simp [Rw, this]
  | k + 1, v, ps, h => by
    obtain ⟨_, hne, hps⟩ := B.good.choose_spec.pos _ h (by dsimp only; push_cast; omega)
    dsimp only at hne hps
    obtain ⟨u, hu⟩ := List.exists_mem_of_ne_nil _ hne
    obtain ⟨⟨qs, hq⟩, hw⟩ := (hps u).mp hu
    have e : ((k + 1 : Nat) : Int) - 1 = (k : Int) := by push_cast; omega
    rw [e] at hq
    have ih := BDone.pos B k u qs hq
    obtain ⟨h1, _, h3⟩ := (B.adj u v).mp hw
    unfold Rw
    have hge := sum_ge (f := fun u => Rw L M src k u * M u v) (L := L) (fun x _ => by
      have := Rw_nonneg B k x
      rcases B.bit x v with q | q <;> rw [q] <;> omega) h1
    rw [h3] at hge
    omega
/-- walks to a node come over its kept predecessors -/
theorem BDone.count (B : BDone L M rowf src P) (k : Nat) {v : Int} {ps : List Int} (h : (v, ((k + 1 : Nat) : Int), ps) ∈ P) : Rw L M src (k + 1) v = (ps.map (Rw L M src k)).sum := by
  obtain ⟨hnd, _, hps⟩ := B.good.choose_spec.pos _ h (by dsimp only; push_cast; omega)
  dsimp only at hnd hps
  have e : ((k + 1 : Nat) : Int) - 1 = (k : Int) := by push_cast; omega
  rw [e] at hps
  have hvL : v ∈ L := B.good.choose_spec.sub v (key_ent h)
  have hin : ∀ u, u ∈ ps → u ∈ L ∧ M u v = 1 := fun u hu => by
    obtain ⟨_, hw⟩ := (hps u).mp hu
    obtain ⟨h1, _, h3⟩ := (B.adj u v).mp hw
    exact ⟨h1, h3⟩
  have off : ∀ u ∈ L, u ∉ ps → Rw L M src k u * M u v = 0 := fun u hu hn => by
    rcases B.bit u v with q | q
    · rw [q]; omega
    · have h0 := Rw_nonneg B k u
      rcases Int.lt_or_le 0 (Rw L M src k u) with hp | hp
      · exfalso
        obtain ⟨j, qs, hj, hjk⟩ := B.reach k u hu hp
        have hw := (B.adj u v).mpr ⟨hu, hvL, q⟩
        obtain ⟨k', ps', h1, h2⟩ := B.close _ hj v hw
        dsimp only at h2
        obtain ⟨e1, _⟩ := uniq B.keys h1 h
        push_cast at e1
        have : j = (k : Int) := by omega
        subst this
        exact hn ((hps u).mpr ⟨⟨qs, hj⟩, hw⟩)
      · have : Rw L M src k u = 0 := by omega
        rw [this]; omega
  show (L.map fun u => Rw L M src k u * M u v).sum = _
  rw [sum_off off]
  have hperm : (L.filter fun u => decide (u ∈ ps)).Perm ps := perm_of_mem (B.nd.filter _) hnd fun x => by
    rw [List.mem_filter]
    simp only [decide_eq_true_eq]
    exact ⟨fun q => q.2, fun q => ⟨(hin x q).1, q⟩⟩
  rw [perm_sum (hperm.map _)]
  congr 1
  refine List.map_congr_left fun u hu => ?_
  rw [(hin u hu).2]; omega
end
end Mine
end

-- Law5
section
open PySem PySem.W PyProof.Rows PySem.Calls
set_option Elab.async false
set_option maxRecDepth 100000
set_option maxHeartbeats 2000000
set_option linter.unusedVariables false
namespace Mine
section
variable {prog : Program} {w : World} {A : Around} {E : Value → Shared → Prop} {σ s : Shared} {F T ps r : List HP} {mg mb m : Str → Option Value} {rk : Int → List (Int × Value)} {ra : Int → Addr} {N : List Int} {n : Nat} {M : Int → Int → Int}
theorem Own.change {ps qs : List HP} (O : Own σ ps s) (hk : qs.map (·.1) = ps.map (·.1)) (hm : ∀ p ∈ qs, ∃ o, s.heap.get? p.1 = some o ∧ p.2 o) : Own σ qs s where
  keep := O.keep
  mem := hm
  above := fun p hp => by
    have : p.1 ∈ ps.map (·.1) := hk ▸ List.mem_map.mpr ⟨p, hp, rfl⟩
    obtain ⟨q, hq, e⟩ := List.mem_map.mp this
    exact e ▸ O.above q hq
  top := O.top
  nd := hk ▸ O.nd
  gens := O.gens
  drawn := O.drawn
  os := O.os
/-- the rows' epochs, named -/
theorem Own.freezeFam (O : Own σ (F ++ (fam (fun u => IsD prog w (rk u)) ra N ++ T)) s) : ∃ ep : Int → Nat, Own σ (F ++ (fam (fun u => IsDe prog w (rk u) (ep u)) ra N ++ T)) s := by
  have hex : ∀ u : Int, ∃ ep : Nat, u ∈ N → ∃ o, s.heap.get? (ra u) = some o ∧ IsDe prog w (rk u) ep o := fun u => by
    by_cases hu : u ∈ N
    · obtain ⟨o, ho, hP⟩ := O.mem (ra u, IsD prog w (rk u)) (List.mem_append_right _ (List.mem_append_left _ (List.mem_map.mpr ⟨u, hu, rfl⟩)))
      obtain ⟨ep, he⟩ := IsD.ep hP
      exact ⟨ep, fun _ => ⟨o, ho, he⟩⟩
    · exact ⟨0, fun h => absurd h hu⟩
  refine ⟨fun u => (hex u).choose, O.change ?_ fun p hp => ?_⟩
  · simp [fam]
  · rcases List.mem_append.mp hp with h | h
    · exact O.mem p (List.mem_append_left _ h)
    · rcases List.mem_append.mp h with h | h
      · obtain ⟨u, hu, rfl⟩ := List.mem_map.mp h
        exact (hex u).choose_spec hu
      · exact O.mem p (List.mem_append_right _ (List.mem_append_right _ h))
theorem fam_nodup {ep : Int → Nat} (O : Own σ (F ++ (fam (fun u => IsDe prog w (rk u) (ep u)) ra N ++ T)) s) : ∀ u ∈ N, ((rk u).map (·.1)).Nodup := fun u hu => by
  obtain ⟨o, _, hP⟩ := O.mem (ra u, IsDe prog w (rk u) (ep u)) (List.mem_append_right _ (List.mem_append_left _ (List.mem_map.mpr ⟨u, hu, rfl⟩)))
  exact hP.nodup
theorem rowAt_fam {ep : Int → Nat} (hN : ∀ x, x ∈ N ↔ x ∈ rangeI n) : ∀ v ∈ rangeI n, RowAt prog w (fam (fun u => IsDe prog w (rk u) (ep u)) ra N ++ T) (N.map fun u => (u, .ref (ra u))) v ((rk v).map (·.1)) := fun v hv => by
  have hv' := (hN v).mpr hv
  obtain ⟨q, hq⟩ := pick_famR (P := fun u => IsDe prog w (rk u) (ep u)) (ra := ra) hv'
  exact ⟨ra v, rk v, ep v, _, vAt_some (f := fun u => .ref (ra u)) hv', .left hq, rfl⟩
end
/-- the search over the rows of the law's graph -/
theorem law_bfs {n : Nat} {M : Int → Int → Int} {rowf : Int → List Int} {src : Int} (hn1 : 1 ≤ n) (hn6 : n ≤ 6) (hbit : ∀ u v, M u v = 0 ∨ M u v = 1) (hadj : ∀ u v, v ∈ rowf u ↔ u ∈ rangeI n ∧ v ∈ rangeI n ∧ M u v = 1) (hnd : ∀ u ∈ rangeI n, (rowf u).Nodup) (hs : src ∈ rangeI n) :
    (∀ cut, bokBfs rowf (rangeI n) cut (n + 1 + 1) 0 [(src, 0, [])] [src]) ∧ BDone (rangeI n) M rowf src (bfs rowf none (n + 1 + 1) 0 [(src, 0, [])] [src]) ∧
      ∀ c : Int, 0 < c → bfs rowf (some c) (n + 1 + 1) 0 [(src, 0, [])] [src] = (bfs rowf none (n + 1 + 1) 0 [(src, 0, [])] [src]).filter fun e => e.2.1 ≤ c := by
  have hr : ∀ v, (rowf v).Nodup := fun v => by
    by_cases hv : v ∈ rangeI n
    · exact hnd v hv
    · have : rowf v = [] := List.eq_nil_iff_forall_not_mem.mpr fun x hx => hv ((hadj v x).mp hx).1
      rw [this]; exact List.nodup_nil
  have hN : ∀ u ∈ rangeI n, ∀ w ∈ rowf u, w ∈ rangeI n := fun u _ w hw => ((hadj u w).mp hw).2.1
  have G : BGood (rangeI n) rowf src 0 [(src, 0, [])] [src] := BGood.init hs
  have hl : (rangeI n).length = n := rangeI_len
  refine ⟨fun cut => G.bokBfs hr hN (by omega) _ (by omega) (by rw [hl]; push_cast; omega), ⟨bfs_end hr hN _ G (by omega) (by rw [hl]; push_cast; omega), hadj, hbit, rangeI_nodup n⟩, fun c hc => bfs_cut hr hN _ G hc⟩
end Mine
end

-- Law6
section
open PySem PySem.W PyProof.Rows PySem.Calls
set_option Elab.async false
set_option maxRecDepth 100000
set_option maxHeartbeats 2000000
set_option linter.unusedVariables false
namespace Mine
/-- the ledger of the law once the first search is done -/
abbrev lawT (prog : Program) (w : World) (M : Int → Int → Int) (rt : Int → Addr) (n : Nat) (ta fa : Addr) (fs : List Int) (C g gd nd od av ax : Addr) (kvs : List (Str × Value)) (N : List Int) (ra : Int → Addr) (rk : Int → List (Int × Value)) (ep : Int → Nat) (ps : List HP) : List HP :=
  (av, IsO (plainObj 142 (some ax) #[some (.ref od)])) :: (ax, IsS prog w []) :: (g, IsO (plainObj C (some gd) #[])) :: (gd, IsS prog w (kvs ++ [(("adj" : Str), (.ref av : Value))])) :: (nd, IsDK prog w N) :: (od, IsD prog w (N.map fun u => (u, .ref (ra u)))) ::
    (fam (fun u => IsDe prog w (rk u) (ep u)) ra N ++ ((ta, IsL (tabL rt n)) :: (rowsHP M rt n ++ ((fa, IsI fs) :: ps))))
section
variable {prog : Program} {w : World} {A : Around} {E : Value → Shared → Prop} {σ s : Shared} {ps : List HP} {mg mb m : Str → Option Value} {L fa ta : Addr} {k n : Nat} {fs : List Int} {rt : Int → Addr} {M : Int → Int → Int} {tn ts : Tok} {src : Int}
  {C cp cpd fn g gd nd od : Addr} {nm : Str} {kvs : List (Str × Value)} {N : List Int} {ra : Int → Addr} {rk : Int → List (Int × Value)}
theorem law_7 {Q : Flow → Shared → Prop} (X : PF (KF w) σ mg mb) (hr : Room A (k + 12)) (hn1 : 1 ≤ n) (hn6 : n ≤ 6) (hbit : ∀ u v, M u v = 0 ∨ M u v = 1) (GB' : GB C cp cpd fn nm kvs od nd) (hNd : N.Nodup) (hN : ∀ x, x ∈ N ↔ x ∈ rangeI n)
    (hrk : ∀ u v, v ∈ (rk u).map (·.1) ↔ u ∈ rangeI n ∧ v ∈ rangeI n ∧ M u v = 1) (hG : m "G" = some (.ref g)) (hsrc : src ∈ rangeI n)
    (O : Own σ ((L, IsNs m) :: (lawC L (some (.ref fa)) (some (.int n tn)) (some (.ref ta)) none (some (.int src ts)) none none none none none none ++
        ((g, IsO (plainObj C (some gd) #[])) :: (gd, IsS prog w kvs) :: (nd, IsDK prog w N) :: (od, IsD prog w (N.map fun u => (u, .ref (ra u)))) :: (rfam prog w rk ra N ++ ((ta, IsL (tabL rt n)) :: (rowsHP M rt n ++ ((fa, IsI fs) :: ps))))))) s)
    (h : ∀ av ax ep la sd pd s', (∀ cut, bokBfs (fun u => (rk u).map (·.1)) (rangeI n) cut (n + 1 + 1) 0 [(src, 0, [])] [src]) → BDone (rangeI n) M (fun u => (rk u).map (·.1)) src (bfs (fun u => (rk u).map (·.1)) none (n + 1 + 1) 0 [(src, 0, [])] [src]) →
      (∀ c : Int, 0 < c → bfs (fun u => (rk u).map (·.1)) (some c) (n + 1 + 1) 0 [(src, 0, [])] [src] = (bfs (fun u => (rk u).map (·.1)) none (n + 1 + 1) 0 [(src, 0, [])] [src]).filter fun e => e.2.1 ≤ c) →
      Own σ ((L, IsNs m) :: (lawC L (some (.ref fa)) (some (.int n tn)) (some (.ref ta)) none (some (.int src ts)) (some (.ref pd)) (some (.ref sd)) none none none none ++
        ((sd, IsDI prog w ((bfs (fun u => (rk u).map (·.1)) none (n + 1 + 1) 0 [(src, 0, [])] [src]).map fun e => (e.1, e.2.1))) :: (pd, IsD prog w ((bfs (fun u => (rk u).map (·.1)) none (n + 1 + 1) 0 [(src, 0, [])] [src]).map fun e => (e.1, .ref (la e.1)))) ::
          (bfam la (bfs (fun u => (rk u).map (·.1)) none (n + 1 + 1) 0 [(src, 0, [])] [src]) ++ lawT prog w M rt n ta fa fs C g gd nd od av ax kvs N ra rk ep ps)))) s' → Q .next s') :
    wpOk (model prog w) A (exec (lawB w).1.2.2.1 (lawEnv w L)) Q E s := by
  have O1 : Own σ (((g, IsO (plainObj C (some gd) #[])) :: (gd, IsS prog w kvs) :: (nd, IsDK prog w N) :: (od, IsD prog w (N.map fun u => (u, .ref (ra u)))) :: (L, IsNs m) :: lawC L (some (.ref fa)) (some (.int n tn)) (some (.ref ta)) none (some (.int src ts)) none none none none none none) ++ (fam (fun u => IsD prog w (rk u)) ra N ++ ((ta, IsL (tabL rt n)) :: (rowsHP M rt n ++ ((fa, IsI fs) :: ps))))) s := O.to
  obtain ⟨ep, O2⟩ := O1.freezeFam
  have hnd : ∀ u ∈ rangeI n, ((rk u).map (·.1)).Nodup := fun u hu => fam_nodup O2 u ((hN u).mpr hu)
  obtain ⟨hb1, hb2, hb3⟩ := law_bfs (rowf := fun u => (rk u).map (·.1)) hn1 hn6 hbit hrk hnd hsrc
  obtain ⟨f, O3⟩ := O2.openDK (d := nd) (.there (.there .here))
  have O4 : Own σ ((g, IsO (plainObj C (some gd) #[])) :: (gd, IsS prog w kvs) :: (nd, IsD prog w (N.map fun u => (u, .ref (f u)))) :: (od, IsD prog w (N.map fun u => (u, .ref (ra u)))) :: (L, IsNs m) :: (L + 11, IsC none) :: (L + 10, IsC none) :: (L + 9, IsC none) :: (L + 8, IsC none) :: (L + 7, IsC none) :: (L + 6, IsC none) :: (L + 5, IsC (some (.int src ts))) :: (L + 4, IsC none) :: (L + 3, IsC (some (.ref ta))) :: (L + 2, IsC (some (.int n tn))) :: (L + 1, IsC (some (.ref fa))) ::
    (fam (fun u => IsDe prog w (rk u) (ep u)) ra N ++ ((ta, IsL (tabL rt n)) :: (rowsHP M rt n ++ ((fa, IsI fs) :: ps))))) s := O3.to
  clear O O1 O2 O3
  refine ok_Assign_Tuple (ok_Call_Name_kw (r_glob X O4 ?_ (v := .ref 66)))
  refine ok_callWith_KW (K := KF w) (by rfl) (by rfl) (spliced_more (r_ld O4 (spliced_more (r_cell (c := L + 5) O4 (spliced_none ?_) (by repeat (first | exact Pick.here | apply Pick.there | apply Pick.right)))) (hv := hG)))
  refine wpAny_evalAll_cons (wpAny_bind (r_bool (wpAny_bind (wpAny_standAt (wpAny_pure (wpAny_evalAll_nil ?_))))))
  refine ⟨O4.inK X, ok_call ?_⟩
  refine p_first (cut := none) (cutv := .none) (tgv := .none) (rsv := .bool true) (src := src) (ts := ts) (N := rangeI n) (rowf := fun u => (rk u).map (·.1)) (kk := n + 1) (n := k) GB'.gc X (hr.less (by omega)) O4 GB'.out GB'.adj (by rw [sizeLine_eq]; have := GB'.len; omega) (.there .here) GB'.node .here ?_ ?_ .none ?_ (hb1 none) ?_
  · rw [vAt_isSome (f := fun u => .ref (f u)), decide_eq_true ((hN src).mpr hsrc)]
  · exact fun v hv => (rowAt_fam (prog := prog) (w := w) (rk := rk) (ra := ra) (ep := ep) (T := (ta, IsL (tabL rt n)) :: (rowsHP M rt n ++ ((fa, IsI fs) :: ps))) hN v hv).cons.cons.cons.cons.cons.cons.cons.cons.cons.cons.cons.cons.cons.cons
  · exact fun K => binds_K K rfl rfl rfl rfl rfl
  · intro A' E' L' m' nl sd pd la rest av ax s' O' ht hrs hse hpr
    refine p_pair O' ht hrs hse hpr fun tp s2 O5 => ?_
    have O6 := O5.to (qs := (tp, IsT [.ref pd, .ref sd]) :: (sd, IsDI prog w ((bfs (fun u => (rk u).map (·.1)) none (n + 1 + 1) 0 [(src, 0, [])] [src]).map fun e => (e.1, e.2.1))) :: (pd, IsD prog w ((bfs (fun u => (rk u).map (·.1)) none (n + 1 + 1) 0 [(src, 0, [])] [src]).map fun e => (e.1, .ref (la e.1)))) :: (nd, IsD prog w (N.map fun u => (u, .ref (f u)))) :: (L, IsNs m) :: (L + 11, IsC none) :: (L + 10, IsC none) :: (L + 9, IsC none) :: (L + 8, IsC none) :: (L + 7, IsC none) :: (L + 6, IsC none) :: (L + 5, IsC (some (.int src ts))) :: (L + 4, IsC none) :: (L + 3, IsC (some (.ref ta))) :: (L + 2, IsC (some (.int n tn))) :: (L + 1, IsC (some (.ref fa))) ::
      (bfam la (bfs (fun u => (rk u).map (·.1)) none (n + 1 + 1) 0 [(src, 0, [])] [src]) ++ ((av, IsO (plainObj 142 (some ax) #[some (.ref od)])) :: (ax, IsS prog w []) :: (g, IsO (plainObj C (some gd) #[])) :: (gd, IsS prog w (kvs ++ [(("adj" : Str), (.ref av : Value))])) :: (od, IsD prog w (N.map fun u => (u, .ref (ra u)))) ::
        (fam (fun u => IsDe prog w (rk u) (ep u)) ra N ++ ((ta, IsL (tabL rt n)) :: (rowsHP M rt n ++ ((fa, IsI fs) :: ps)))))))
    refine r_unpack2 O6 hr.hh .here rfl rfl rfl fun s3 O7 => ?_
    refine wpAny_assign_Name (r_stC (c := L + 6) O7 (fun s4 O8 => ?_) (by repeat (first | exact Pick.here | apply Pick.there | apply Pick.right)))
    refine wpAny_assign_Name (r_stC (c := L + 7) O8 (fun s5 O9 => ?_) (by repeat (first | exact Pick.here | apply Pick.there | apply Pick.right)))
    refine h av ax ep la sd pd s5 hb1 hb2 hb3 ?_
    have O10 := (O9.to (qs := (nd, IsD prog w (N.map fun u => (u, .ref (f u)))) :: (L, IsNs m) :: (L + 11, IsC none) :: (L + 10, IsC none) :: (L + 9, IsC none) :: (L + 8, IsC none) :: (L + 7, IsC (some (.ref sd))) :: (L + 6, IsC (some (.ref pd))) :: (L + 5, IsC (some (.int src ts))) :: (L + 4, IsC none) :: (L + 3, IsC (some (.ref ta))) :: (L + 2, IsC (some (.int n tn))) :: (L + 1, IsC (some (.ref fa))) :: (sd, IsDI prog w ((bfs (fun u => (rk u).map (·.1)) none (n + 1 + 1) 0 [(src, 0, [])] [src]).map fun e => (e.1, e.2.1))) :: (pd, IsD prog w ((bfs (fun u => (rk u).map (·.1)) none (n + 1 + 1) 0 [(src, 0, [])] [src]).map fun e => (e.1, .ref (la e.1)))) :: (bfam la (bfs (fun u => (rk u).map (·.1)) none (n + 1 + 1) 0 [(src, 0, [])] [src]) ++ ((av, IsO (plainObj 142 (some ax) #[some (.ref od)])) :: (ax, IsS prog w []) :: (g, IsO (plainObj C (some gd) #[])) :: (gd, IsS prog w (kvs ++ [(("adj" : Str), (.ref av : Value))])) :: (od, IsD prog w (N.map fun u => (u, .ref (ra u)))) :: (fam (fun u => IsDe prog w (rk u) (ep u)) ra N ++ ((ta, IsL (tabL rt n)) :: (rowsHP M rt n ++ ((fa, IsI fs) :: ps)))))))).imp (P' := IsDK prog w N) fun o ho => ⟨f, ho⟩
    exact Own.tailPerm (front := [(L, IsNs m), (L + 11, IsC none), (L + 10, IsC none), (L + 9, IsC none), (L + 8, IsC none), (L + 7, IsC (some (.ref sd))), (L + 6, IsC (some (.ref pd))), (L + 5, IsC (some (.int src ts))), (L + 4, IsC none), (L + 3, IsC (some (.ref ta))), (L + 2, IsC (some (.int n tn))), (L + 1, IsC (some (.ref fa))), (sd, IsDI prog w ((bfs (fun u => (rk u).map (·.1)) none (n + 1 + 1) 0 [(src, 0, [])] [src]).map fun e => (e.1, e.2.1))), (pd, IsD prog w ((bfs (fun u => (rk u).map (·.1)) none (n + 1 + 1) 0 [(src, 0, [])] [src]).map fun e => (e.1, .ref (la e.1))))]) (T := bfam la (bfs (fun u => (rk u).map (·.1)) none (n + 1 + 1) 0 [(src, 0, [])] [src]) ++ ([(av, IsO (plainObj 142 (some ax) #[some (.ref od)])), (ax, IsS prog w []), (g, IsO (plainObj C (some gd) #[])), (gd, IsS prog w (kvs ++ [(("adj" : Str), (.ref av : Value))]))] ++ ((nd, IsDK prog w N) :: (od, IsD prog w (N.map fun u => (u, .ref (ra u)))) :: (fam (fun u => IsDe prog w (rk u) (ep u)) ra N ++ ((ta, IsL (tabL rt n)) :: (rowsHP M rt n ++ ((fa, IsI fs) :: ps))))))) O10 (perm_in3 (F := bfam la (bfs (fun u => (rk u).map (·.1)) none (n + 1 + 1) 0 [(src, 0, [])] [src])) (G := [(av, IsO (plainObj 142 (some ax) #[some (.ref od)])), (ax, IsS prog w []), (g, IsO (plainObj C (some gd) #[])), (gd, IsS prog w (kvs ++ [(("adj" : Str), (.ref av : Value))]))]) (T := (od, IsD prog w (N.map fun u => (u, .ref (ra u)))) :: (fam (fun u => IsDe prog w (rk u) (ep u)) ra N ++ ((ta, IsL (tabL rt n)) :: (rowsHP M rt n ++ ((fa, IsI fs) :: ps))))))
end
end Mine
end

-- Dic
section
open PySem PySem.W PyProof.Rows PySem.Calls
set_option Elab.async false
set_option maxRecDepth 100000
set_option maxHeartbeats 2000000
set_option linter.unusedVariables false
namespace Mine
section
variable {prog : Program} {w : World} {A : Around} {E : Value → Shared → Prop} {σ s : Shared} {ps r : List HP} {K : Frag} {mg mb : Str → Option Value} {d : Addr} {kvs : List (Int × Value)}
theorem ints_of_items {vs : List Value} : ∀ {xs : List Int}, vs.length = xs.length → (∀ (i : Nat) (v : Value), vs[i]? = some v → ∃ (x : Int) (t : Tok), xs[i]? = some x ∧ v = Value.int x t) → IntsAre vs xs := by
  induction vs with
  | nil => intro xs hl _; cases xs with
    | nil => exact .nil
    | cons _ _ => simp at hl
  | cons v vs ih =>
    intro xs hl h
    cases xs with
    | nil => simp at hl
    | cons x xs =>
      obtain ⟨x', t, h1, h2⟩ := h 0 v rfl
      simp at h1
      subst h1 h2
      exact .cons x t (ih (by simpa using hl) fun i v hv => by simpa using h (i + 1) v (by simpa using hv))
theorem r_sortedD {Q : Value → Shared → Prop} (X : PF K σ mg mb) (O : Own σ ps s) (hh : A.handled = none) (hp : Pick d (IsD prog w kvs) ps r) (hz : kvs.length < 64) (h : ∀ a ys s', ys.Perm (kvs.map (·.1)) → ys.Pairwise (· ≤ ·) → Own σ ((a, IsI ys) :: ps) s' → Q (.ref a) s') :
    wpAny (model prog w) A (call (.builtin "sorted") [.ref d]) Q E s := by
  obtain ⟨ep, hat⟩ := (O.dict hp).dictAt
  refine call_function_entry kind_sorted plain_sorted entry_sorted (args_sorted1 _) ?_
  unfold Builtin.«sorted»
  refine wpAny_bind (m := checkCount "sorted" 1 1 _) (wpAny_pure ?_)
  refine wpAny_bind (kdu_collect (kdl_dict (O.noSys X hp)) hh hat (by rw [sizeLine_eq]; omega) fun h' tk acc hk hit => ?_)
  have O1 := O.stays (t := tk) hk
  have hI : IntsAre acc.toList (kvs.map (·.1)) := ints_of_items (by rw [List.length_map]; exact hit.1) fun i v hv => by
    obtain ⟨k, x, h1, h2⟩ := hit.2 i v (by simpa using hv)
    obtain ⟨t, rfl⟩ := Value.isInt_shape h2
    exact ⟨k, t, by rw [List.getElem?_map, h1]; rfl, rfl⟩
  have hlen : acc.toList.length = kvs.length := hit.1
  refine wpAny_bind (r_newList O1 (fun D s2 O2 => ?_) (by rw [hlen, sizeLine_eq]; omega))
  obtain ⟨o, ho, n, rfl⟩ := O2.get .here
  refine wpAny_bind (wpAny_holding (wpAny_call_entry slot_list_sort ⟨_, ho, rfl⟩ entry_list_sort (list_sort_tree (n := n) ho hI (by rw [hlen]; exact hz) fun out ns' a1 a2 a3 => ⟨_, rfl, ?_⟩) (args_list_sort _)))
  refine wpAny_pure ⟨_, rfl, h D ns' _ a2 a3 ?_⟩
  obtain ⟨e, he⟩ := sortedHeap_at (out := out) ho
  exact (O2.upd (t := s2.toks) (P' := IsI ns') .here (fun b o hb hbo => by rw [sortedHeap_old hb (Heap.lt_size hbo)]; exact hbo) ⟨_, he, out.toList, e, by simp [seqObj], a1⟩)
def IsSt (prog : Program) (w : World) (c : Nat) (o : Obj) : Prop := o.ExactSet ∧ ∃ es ep t, o.data = .set es ep t ∧ es.size < scanBound ∧ t.fits es.size = true ∧ es.size = c
theorem firstMet_nodup {xs : List Int} (hn : xs.Nodup) : ∀ i, i ≤ xs.length → firstMet (fun j => xs.getD j 0) i = xs.take i
  | 0, _ => by rw [firstMet_zero]; simp
  | i + 1, hi => by
    rw [firstMet_succ, firstMet_nodup hn i (by omega)]
    have hlt : i < xs.length := by omega
    have e : xs.getD i 0 = xs[i] := by simp [hlt]
    have hnot : xs[i] ∉ xs.take i := not_mem_take' hn hlt
    unfold step_dedup
    rw [e, List.take_add_one, List.getElem?_eq_getElem hlt]
    have : (xs.take i).any (· == xs[i]) = false := by
      rw [List.any_eq_false]
      intro y hy q
      exact hnot (by have : y = xs[i] := by simpa using q
                     rw [← this]; exact hy)
    simp [this]
theorem r_set {l : Addr} {xs : List Int} {r : List HP} {Q : Value → Shared → Prop} (O : Own σ ps s) (hh : A.handled = none) (hp : Pick l (IsI xs) ps r) (hn : xs.Nodup) (hz : xs.length ≤ 100) (h : ∀ a s', Own σ ((a, IsSt prog w xs.length) :: ps) s' → Q (.ref a) s') :
    wpAny (model prog w) A (call (.type "set") [.ref l]) Q E s := by
  obtain ⟨o, ho, vs, n, e, hi⟩ := O.get hp
  have hl : s.heap.IsList l vs.toArray := ⟨o, ho, by rw [e], n, by rw [e]⟩
  refine PySem.call_set_list (items := vs.toArray) (ns := xs) hh hl (by simpa using hi) (by rw [List.size_toArray, ints_len hi]; have : scanBound = scanBound := rfl; exact Nat.lt_of_le_of_lt (Nat.succ_le_succ hz) (by decide)) fun h' tk hS hk => ?_
  have hsz : vs.toArray.size = xs.length := by rw [List.size_toArray, ints_len hi]
  rw [hsz, firstMet_nodup hn _ (Nat.le_refl _), List.take_length] at hS
  obtain ⟨os, es, ep, t, h1, h2, h3, _, _, h4, h5, h6⟩ := hS
  refine h _ _ (O.add (t := tk) (fun b ob hb hbo => hk b ob (Heap.lt_size hbo) hbo) ⟨os, h1, h2, es, ep, t, h3, h4, h5, h6⟩)
theorem r_lenSet {a : Addr} {c : Nat} {r : List HP} {Q : Value → Shared → Prop} (O : Own σ ps s) (hp : Pick a (IsSt prog w c) ps r) (hz : c ≤ 100) (h : ∀ u s', Own σ ps s' → Q (.int c u) s') : wpAny (model prog w) A (call (.builtin "len") [.ref a]) Q E s := by
  obtain ⟨o, ho, hex, es, ep, t, hd, _, hf, hc⟩ := O.get hp
  refine PySem.call_len_set ho hex hd hf (by omega) ?_
  rw [hc]
  exact h _ _ (O.toks (t := s.toks + 1 + 1))
end
end Mine
end

-- Dic2
section
open PySem PySem.W PyProof.Rows PySem.Calls
set_option Elab.async false
set_option maxRecDepth 100000
set_option maxHeartbeats 2000000
set_option linter.unusedVariables false
namespace Mine
section
variable {prog : Program} {w : World} {A : Around} {E : Value → Shared → Prop} {σ s : Shared} {ps r1 r2 : List HP} {K : Frag} {mg mb : Str → Option Value} {d1 d2 : Addr} {P : List Ent} {la1 la2 : Int → Addr}
theorem hits_same (hu : A.in1.units + 64 < cLine) (hP : (P.map (·.1)).Nodup) (hl1 : ∀ e ∈ P, ∃ o, s.heap.get? (la1 e.1) = some o ∧ IsI e.2.2 o) (hl2 : ∀ e ∈ P, ∃ o, s.heap.get? (la2 e.1) = some o ∧ IsI e.2.2 o) :
    ∀ Pa : List Ent, (∀ e ∈ Pa, e ∈ P) → KeqHits A.in1 s (P.map fun e => (e.1, (.ref (la2 e.1) : Value))) (Pa.map fun e => (e.1, (.ref (la1 e.1) : Value))) true
  | [], _ => .nil
  | e :: Pa, hs => by
    have he := hs e (.head _)
    have hv : valueAt (P.map fun e => (e.1, (.ref (la2 e.1) : Value))) e.1 = some (.ref (la2 e.1)) := by
      rw [vAt_ents, entAt_mem (e := e.2) hP he]; rfl
    obtain ⟨o1, h1, vs1, n1, e1, i1⟩ := hl1 e he
    obtain ⟨o2, h2, vs2, n2, e2, i2⟩ := hl2 e he
    have := keq_ints (A := A) (a := la1 e.1) (b := la2 e.1) ⟨o1, h1, by rw [e1], n1, by rw [e1]⟩ i1 ⟨o2, h2, by rw [e2], n2, by rw [e2]⟩ i2 hu
    rw [decide_eq_true rfl] at this
    exact KeqHits.hit hv this (hits_same hu hP hl1 hl2 Pa fun x hx => hs x (.tail _ hx))
theorem r_neD {Q : Value → Shared → Prop} (X : PF K σ mg mb) (O : Own σ ps s) (hu : A.in1.units + 64 < cLine) (hu2 : A.units < cLine) (hP : (P.map (·.1)).Nodup) (h1 : Pick d1 (IsD prog w (P.map fun e => (e.1, .ref (la1 e.1)))) ps r1) (h2 : Pick d2 (IsD prog w (P.map fun e => (e.1, .ref (la2 e.1)))) ps r2)
    (hl1 : ∀ e ∈ P, ∃ r, Pick (la1 e.1) (IsI e.2.2) ps r) (hl2 : ∀ e ∈ P, ∃ r, Pick (la2 e.1) (IsI e.2.2) ps r) (h : Q (.bool false) s) : wpAny (model prog w) A (compareOp .NotEq (.ref d1) (.ref d2)) Q E s := by
  refine keq_ne (r := true) (O.noSys X h1) (O.noSys X h2) (O.dict h1) (O.dict h2) hu2 (fun _ => hits_same hu hP (fun e he => ?_) (fun e he => ?_) P fun _ q => q) ?_
  · obtain ⟨_, hp⟩ := hl1 e he; exact O.get hp
  · obtain ⟨_, hp⟩ := hl2 e he; exact O.get hp
  · simpa using h
end
end Mine
end

-- Bp6
section
namespace Mine
section
variable {L : List Int} {M : Int → Int → Int} {rowf : Int → List Int} {src : Int} {P : List Ent}
theorem BDone.below (B : BDone L M rowf src P) : ∀ (k : Nat) {v ps}, (v, (k : Int), ps) ∈ P → ∀ j, j ≤ k → ∃ u qs, (u, (j : Int), qs) ∈ P
  | 0, v, ps, h, j, hj => ⟨v, ps, by have : j = 0 := by omega
                                     subst this; exact h⟩
  | k + 1, v, ps, h, j, hj => by
    by_cases e : j = k + 1
    · subst e; exact ⟨v, ps, h⟩
    · obtain ⟨_, hne, hps⟩ := B.good.choose_spec.pos _ h (by dsimp only; push_cast; omega)
      obtain ⟨u, hu⟩ := List.exists_mem_of_ne_nil _ hne
      obtain ⟨⟨qs, hq⟩, _⟩ := (hps u).mp hu
      have e1 : ((k + 1 : Nat) : Int) - 1 = (k : Int) := by push_cast; omega
      dsimp only at hq
      rw [e1] at hq
      exact BDone.below B k hq j (by omega)
/-- levels are fewer than nodes -/
theorem BDone.lvl (B : BDone L M rowf src P) {e : Ent} (he : e ∈ P) : 0 ≤ e.2.1 ∧ e.2.1 < L.length := by
  have h0 := (B.good.choose_spec.lv e he).1
  refine ⟨h0, ?_⟩
  obtain ⟨v, l, ps⟩ := e
  dsimp only at h0 ⊢
  have hk : (v, ((l.toNat : Nat) : Int), ps) ∈ P := by
    have : ((l.toNat : Nat) : Int) = l := by omega
    rw [this]; exact he
  have h1 := nodup_length (l := List.range (l.toNat + 1)) (m := P.map fun e => e.2.1.toNat) List.nodup_range fun j hj => by
    have := List.mem_range.mp hj
    obtain ⟨u, qs, hq⟩ := B.below l.toNat hk j (by omega)
    exact List.mem_map.mpr ⟨_, hq, by simp⟩
  rw [List.length_range, List.length_map] at h1
  have h2 := nodup_length B.keys B.good.choose_spec.sub
  rw [keysOf, List.length_map] at h2
  omega
theorem BDone.headE (B : BDone L M rowf src P) : entAt P src = some (0, []) := by
  obtain ⟨R, hR⟩ := B.good.choose_spec.head
  exact entAt_mem B.keys (by rw [hR]; exact .head _)
theorem BDone.zeroE (B : BDone L M rowf src P) {v : Int} {ps : List Int} (h : (v, 0, ps) ∈ P) : v = src ∧ ps = [] := B.good.choose_spec.zero _ h rfl
/-- the kept predecessors of a node, sorted -/
theorem BDone.predsE (B : BDone L M rowf src P) {v l : Int} {ps ys : List Int} (h : (v, l, ps) ∈ P) (hl : 0 < l) (hL : L.Pairwise (· ≤ ·)) (h1 : ys.Perm ps) (h2 : ys.Pairwise (· ≤ ·)) : ys = L.filter fun u => decide (M u v = 1 ∧ (entAt P u).map (·.1) = some (l - 1)) := by
  obtain ⟨hnd, _, hps⟩ := B.good.choose_spec.pos _ h hl
  dsimp only at hnd hps
  have hvL : v ∈ L := B.good.choose_spec.sub v (key_ent h)
  refine sorted_eq (h1.trans (perm_of_mem hnd (B.nd.filter _) fun u => ?_)) h2 (hL.filter _)
  rw [hps u, List.mem_filter, B.adj]
  simp only [decide_eq_true_eq]
  constructor
  · rintro ⟨⟨qs, hq⟩, a, _, c⟩
    exact ⟨a, c, by rw [entAt_mem (e := (l - 1, qs)) B.keys hq]; rfl⟩
  · rintro ⟨a, c, d⟩
    obtain ⟨⟨l', qs⟩, he, e⟩ := Option.map_eq_some_iff.mp d
    dsimp only at e
    subst e
    exact ⟨⟨qs, entAt_some he⟩, a, hvL, c⟩
theorem BDone.nodupPs (B : BDone L M rowf src P) {v l : Int} {ps : List Int} (h : (v, l, ps) ∈ P) : ps.Nodup := by
  have h0 := (B.good.choose_spec.lv _ h).1
  dsimp only at h0
  by_cases e : l = 0
  · subst e; rw [(B.zeroE h).2]; exact List.nodup_nil
  · exact (B.good.choose_spec.pos _ h (by dsimp only; omega)).1
end
end Mine
end

-- Law7
section
open PySem PySem.W PyProof.Rows PySem.Calls
set_option Elab.async false
set_option maxRecDepth 100000
set_option maxHeartbeats 2000000
set_option linter.unusedVariables false
namespace Mine
section
variable {prog : Program} {w : World} {A : Around} {E : Value → Shared → Prop} {σ s : Shared} {ps T : List HP} {mg mb m : Str → Option Value} {L fa ta sd pd : Addr} {k n : Nat} {M : Int → Int → Int} {tn ts : Tok} {src : Int} {la : Int → Addr} {P : List Ent} {rowf : Int → List Int}
theorem r_get1DI {S : List (Int × Int)} {K : Frag} {d : Addr} {k x : Int} {t : Tok} {r : List HP} {Q : Value → Shared → Prop} (X : PF K σ mg mb) (O : Own σ ps s) (hv : intAt S k = some x) (h : ∀ u s', Own σ ps s' → Q (.int x u) s') (hp : Pick d (IsDI prog w S) ps r) :
    wpAny (model prog w) A (call (.builtin "dict.get") [.ref d, .int k t]) Q E s := by
  obtain ⟨tk, O1⟩ := O.openDI hp
  obtain ⟨u, hu⟩ := valueAt_intAt tk hv
  refine r_get1 X O1 (fun s' O' => ?_) .here
  rw [hu]
  exact h u s' (O'.closeDI.perm hp.perm.symm)
theorem r_methGetDI {S : List (Int × Int)} {d : Addr} {r : List HP} {pl : Sem Bool} {Q : Value × List Value → Shared → Prop} (O : Own σ ps s) (h : Q (.builtin "dict.get", [.ref d]) s) (hp : Pick d (IsDI prog w S) ps r) : wpAny (model prog w) A (getMethod (.ref d) "get" pl) Q E s :=
  r_meth O h hp (fun o ⟨_, _, _, hx, _⟩ => ⟨hx.1, hx.2.1⟩) PySem.F.plainAttrs_dict PySem.F.slot_dict_get PySem.F.type_dict_get
theorem r_sortedDI {S : List (Int × Int)} {K : Frag} {d : Addr} {r : List HP} {Q : Value → Shared → Prop} (X : PF K σ mg mb) (O : Own σ ps s) (hh : A.handled = none) (hp : Pick d (IsDI prog w S) ps r) (hz : S.length < 64) (h : ∀ a ys s', ys.Perm (S.map (·.1)) → ys.Pairwise (· ≤ ·) → Own σ ((a, IsI ys) :: ps) s' → Q (.ref a) s') :
    wpAny (model prog w) A (call (.builtin "sorted") [.ref d]) Q E s := by
  obtain ⟨tk, O1⟩ := O.openDI hp
  refine r_sortedD X O1 hh .here (by rw [List.length_map]; exact hz) fun a ys s' h1 h2 O' => ?_
  refine h a ys s' (by rw [List.map_map] at h1; exact h1) h2 ?_
  exact ((O'.perm (.swap _ _ _)).closeDI.perm ((List.Perm.swap _ _ _).trans (hp.perm.symm.cons _)))
/-- row, many, the first test, level -/
theorem law_8 {Q : Flow → Shared → Prop} (X : PF (KF w) σ mg mb) (hr : Room A (k + 12)) (hn1 : 1 ≤ n) (hn6 : n ≤ 6) (B : BDone (rangeI n) M rowf src P)
    (O : Own σ ((L, IsNs m) :: (lawC L (some (.ref fa)) (some (.int n tn)) (some (.ref ta)) none (some (.int src ts)) (some (.ref pd)) (some (.ref sd)) none none none none ++
        ((sd, IsDI prog w (P.map fun e => (e.1, e.2.1))) :: (pd, IsD prog w (P.map fun e => (e.1, .ref (la e.1)))) :: (bfam la P ++ T)))) s)
    (h : ∀ ro ma tl s', Own σ ((L, IsNs m) :: (lawC L (some (.ref fa)) (some (.int n tn)) (some (.ref ta)) none (some (.int src ts)) (some (.ref pd)) (some (.ref sd)) (some (.ref ro)) (some (.ref ma)) (some (.int 0 tl)) none ++
        ((ro, IsI ((rangeI n).map (Rw (rangeI n) M src 0))) :: (ma, IsDI prog w [(src, 1)]) :: (sd, IsDI prog w (P.map fun e => (e.1, e.2.1))) :: (pd, IsD prog w (P.map fun e => (e.1, .ref (la e.1)))) :: (bfam la P ++ T)))) s' → Q .next s') :
    wpAny (model prog w) A (execs (lawB w).1.2.2.2.1 (lawEnv w L)) Q E s := by
  have O1 : Own σ ((L, IsNs m) :: (L + 11, IsC none) :: (L + 10, IsC none) :: (L + 9, IsC none) :: (L + 8, IsC none) :: (L + 7, IsC (some (.ref sd))) :: (L + 6, IsC (some (.ref pd))) :: (L + 5, IsC (some (.int src ts))) :: (L + 4, IsC none) :: (L + 3, IsC (some (.ref ta))) :: (L + 2, IsC (some (.int n tn))) :: (L + 1, IsC (some (.ref fa))) ::
    (sd, IsDI prog w (P.map fun e => (e.1, e.2.1))) :: (pd, IsD prog w (P.map fun e => (e.1, .ref (la e.1)))) :: (bfam la P ++ T)) s := O
  refine wpAny_execs_cons (wpAny_Assign_Name (r_comp (σ := σ) (cl := [("start", L + 5)]) (by rfl) (by decide) (by rfl) (by decide) ?_))
  refine wpAny_Call_NameR (r_bltn X O1 ?_ (v := .type "range") (hv := by kernel_rfl))
  refine PyProof.Rows.callWith_type1 (spliced_more (r_cell (c := L + 2) O1 (spliced_none ?_) (by repeat (first | exact Pick.here | apply Pick.there | apply Pick.right))))
  refine r_range O1 fun ra s2 O2 => ?_
  refine r_iterRange O2 .here (by omega) fun I s3 O3 => ?_
  refine ⟨I, _, _, rfl, O3, fun O' q => (iterRg (n := n)).self (i := 0) O' q, fun acc C s4 O4 => ?_⟩
  have O5 := O4.to (qs := (C, IsNs fun _ => none) :: (acc, IsL []) :: (I, IsRI ((0 : Nat) : Int) ((n : Int) - ((0 : Nat) : Int)) 1) :: (L, IsNs m) :: (L + 11, IsC none) :: (L + 10, IsC none) :: (L + 9, IsC none) :: (L + 8, IsC none) :: (L + 7, IsC (some (.ref sd))) :: (L + 6, IsC (some (.ref pd))) :: (L + 5, IsC (some (.int src ts))) :: (L + 4, IsC none) :: (L + 3, IsC (some (.ref ta))) :: (L + 2, IsC (some (.int n tn))) :: (L + 1, IsC (some (.ref fa))) :: (sd, IsDI prog w (P.map fun e => (e.1, e.2.1))) :: (pd, IsD prog w (P.map fun e => (e.1, .ref (la e.1)))) :: (bfam la P ++ T))
  refine comp_last (xs := rangeI n) (It := fun j => IsRI j ((n : Int) - j) 1) (Need := fun _ => True) (i := 0) (outs := []) rfl rfl iterRg hr.hh rfl rfl rfl (fun _ => True) (fun _ _ _ => trivial) (fun j outs => IntsAre outs (((rangeI n).map (Rw (rangeI n) M src 0)).take j)) (fun j outs hI => by rw [ints_len hI, List.length_take, List.length_map, rangeI_len]; omega)
    (fun _ _ => (L, IsNs m) :: (L + 11, IsC none) :: (L + 10, IsC none) :: (L + 9, IsC none) :: (L + 8, IsC none) :: (L + 7, IsC (some (.ref sd))) :: (L + 6, IsC (some (.ref pd))) :: (L + 5, IsC (some (.int src ts))) :: (L + 4, IsC none) :: (L + 3, IsC (some (.ref ta))) :: (L + 2, IsC (some (.int n tn))) :: (L + 1, IsC (some (.ref fa))) :: (sd, IsDI prog w (P.map fun e => (e.1, e.2.1))) :: (pd, IsD prog w (P.map fun e => (e.1, .ref (la e.1)))) :: (bfam la P ++ T)) (fun _ _ _ => trivial) O5 trivial .nil (Nat.zero_le _) (fun j x t m2 outs s6 E6 hx _ hm2 hI O6 => ?_) (fun m2 outs s6 _ hI O6 => ?_)
  · refine wpAny_tests_nil ?_
    rw [if_pos rfl]
    have hsn : ∀ t, IntsAre (outs ++ [.int (Rw (rangeI n) M src 0 x) t]) (((rangeI n).map (Rw (rangeI n) M src 0)).take (j + 1)) := fun t => by
      rw [List.take_add_one, List.getElem?_map, hx]
      exact ints_snoc hI _ t
    refine wpAny_IfExp (wpAny_isTrue_Compare1 (r_ld O6 (r_cell (c := L + 5) O6 (r_eq (wpAny_truthy_bool ?_)) (by repeat (first | exact Pick.here | apply Pick.there | apply Pick.right))) (hv := hm2)))
    by_cases hq : x = src
    · have e0 : Rw (rangeI n) M src 0 x = 1 := by simp [Rw, hq]
      rw [e0] at hsn
      rw [show (x == src) = true from by simp [hq], if_pos rfl]
      exact r_int O6 fun t7 s7 O7 => ⟨hsn t7, O7⟩
    · have e0 : Rw (rangeI n) M src 0 x = 0 := by simp [Rw, hq]
      rw [e0] at hsn
      rw [show (x == src) = false from by simp [hq], if_neg (by decide)]
      exact r_int O6 fun t7 s7 O7 => ⟨hsn t7, O7⟩
  · rw [rangeI_len, List.take_of_length_le (by rw [List.length_map, rangeI_len]; exact Nat.le_refl _)] at hI
    refine ⟨rfl, m2, _, O6, fun s7 O7 => ?_⟩
    refine r_stC (c := L + 8) (O7.closeI hI) (fun s8 O8 => ?_) (by repeat (first | exact Pick.here | apply Pick.there | apply Pick.right))
    refine wpAny_execs_cons (wpAny_Assign_Name (r_Dict1 O8 fun ma s9 O9 => ?_))
    refine r_cell (c := L + 5) O9 (r_int O9 fun t10 s10 O10 => ⟨src, ts, _, rfl, O10, fun s11 O11 => ?_⟩) (by repeat (first | exact Pick.here | apply Pick.there | apply Pick.right))
    have O12 := O11.imp (P' := IsDI prog w [(src, 1)]) fun o ho => ⟨fun _ => t10, ho⟩
    refine r_stC (c := L + 9) O12 (fun s13 O13 => ?_) (by repeat (first | exact Pick.here | apply Pick.there | apply Pick.right))
    have hlen : P.length ≤ n := by
      have := B.good.choose_spec.lenN
      rwa [rangeI_len] at this
    refine wpAny_execs_cons (wpAny_If (wpAny_isTrue_BoolOp (wpAny_allTrue_Or_cons (wpAny_isTrue_Compare1 (methodCall_KW (r_cell (c := L + 6) O13 ?_ (by repeat (first | exact Pick.here | apply Pick.there | apply Pick.right))))))))
    refine r_methGetD O13 ?_ (d := pd) (by repeat (first | exact Pick.here | apply Pick.there | apply Pick.right))
    refine callWith_method1 (spliced_more (r_cell (c := L + 5) O13 (spliced_none ?_) (by repeat (first | exact Pick.here | apply Pick.there | apply Pick.right))))
    refine r_get1 (d := pd) X O13 (fun s14 O14 => ?_) (by repeat (first | exact Pick.here | apply Pick.there | apply Pick.right))
    rw [vAt_ents, B.headE]
    refine r_List (spliced_none (r_newI O14 .nil fun e0 s15 O15 => ?_))
    obtain ⟨q0, hq0⟩ := pick_ent (la := la) B.headE
    have O16 := O15.to (qs := (e0, IsI []) :: (L, IsNs m) :: (L + 11, IsC none) :: (L + 10, IsC none) :: (L + 9, IsC (some (.ref ma))) :: (L + 8, IsC (some (.ref acc))) :: (L + 7, IsC (some (.ref sd))) :: (L + 6, IsC (some (.ref pd))) :: (L + 5, IsC (some (.int src ts))) :: (L + 4, IsC none) :: (L + 3, IsC (some (.ref ta))) :: (L + 2, IsC (some (.int n tn))) :: (L + 1, IsC (some (.ref fa))) :: (acc, IsI ((rangeI n).map (Rw (rangeI n) M src 0))) :: (ma, IsDI prog w [(src, 1)]) :: (sd, IsDI prog w (P.map fun e => (e.1, e.2.1))) :: (pd, IsD prog w (P.map fun e => (e.1, .ref (la e.1)))) :: (bfam la P ++ T))
    refine r_neI (l := la src) (a := e0) O16 (by have := hr.hu; omega) (.there (.there (.there (.there (.there (.there (.there (.there (.there (.there (.there (.there (.there (.there (.there (.there (.there (.left hq0)))))))))))))))))) .here ?_
    refine wpAny_truthy_bool ?_
    rw [decide_eq_true rfl]
    have O17 := O16.tail
    refine wpAny_allTrue_Or_cons (wpAny_isTrue_Compare1 (methodCall_KW (r_cell (c := L + 7) O17 ?_ (by repeat (first | exact Pick.here | apply Pick.there | apply Pick.right)))))
    refine r_methGetDI (d := sd) O17 ?_ (by repeat (first | exact Pick.here | apply Pick.there | apply Pick.right))
    refine callWith_method1 (spliced_more (r_cell (c := L + 5) O17 (spliced_none ?_) (by repeat (first | exact Pick.here | apply Pick.there | apply Pick.right))))
    refine r_get1DI (d := sd) (x := 0) X O17 (by rw [intAt_ents, B.headE]; rfl) (fun u18 s18 O18 => ?_) (by repeat (first | exact Pick.here | apply Pick.there | apply Pick.right))
    refine r_int O18 fun t19 s19 O19 => r_ne (wpAny_truthy_bool ?_)
    refine wpAny_allTrue_Or_cons (wpAny_isTrue_Compare1 (wpAny_Call_NameR (r_bltn X O19 ?_ (v := .builtin "sorted") (hv := by kernel_rfl))))
    refine PyProof.Rows.callWith_builtin1 (spliced_more (r_cell (c := L + 6) O19 (spliced_none ?_) (by repeat (first | exact Pick.here | apply Pick.there | apply Pick.right))))
    refine r_sortedD (d := pd) X O19 hr.hh (by repeat (first | exact Pick.here | apply Pick.there | apply Pick.right)) (by rw [List.length_map]; omega) fun y1 ys1 s20 p1 p2 O20 => ?_
    refine wpAny_Call_NameR (r_bltn X O20 ?_ (v := .builtin "sorted") (hv := by kernel_rfl))
    refine PyProof.Rows.callWith_builtin1 (spliced_more (r_cell (c := L + 7) O20 (spliced_none ?_) (by repeat (first | exact Pick.here | apply Pick.there | apply Pick.right))))
    refine r_sortedDI (d := sd) X O20 hr.hh (by repeat (first | exact Pick.here | apply Pick.there | apply Pick.right)) (by rw [List.length_map]; omega) fun y2 ys2 s21 q1 q2 O21 => ?_
    have hys : ys1 = ys2 := by
      rw [List.map_map] at p1 q1
      exact sorted_eq (p1.trans q1.symm) p2 q2
    refine r_neI (l := y1) (a := y2) O21 (by have := hr.hu; omega) (.there .here) .here ?_
    refine wpAny_truthy_bool ?_
    rw [decide_eq_true hys]
    refine wpAny_allTrue_Or_nil (wpAny_execs_nil ?_)
    refine wpAny_execs_cons (wpAny_Assign_Name (r_int O21 fun t22 s22 O22 => ?_))
    refine r_stC (c := L + 10) O22 (fun s23 O23 => ?_) (by repeat (first | exact Pick.here | apply Pick.there | apply Pick.right))
    exact wpAny_execs_nil (h acc ma t22 s23 O23.to)
end
end Mine
end

-- Law8
section
open PySem PySem.W PyProof.Rows PySem.Calls
set_option Elab.async false
set_option maxRecDepth 100000
set_option maxHeartbeats 2000000
set_option linter.unusedVariables false
namespace Mine
/-- the while's test and body: new = .., for v in new: .., row = .., level += 1 -/
noncomputable def lawW (w : World) : {p : Expr × (Stmt × (Expr × Expr × List Stmt × Pos) × Stmt × Stmt) × Pos // (lawB w).1.2.2.2.2.1 = .While p.1 [p.2.1.1, .For p.2.1.2.1.1 p.2.1.2.1.2.1 p.2.1.2.1.2.2.1 [] p.2.1.2.1.2.2.2, p.2.1.2.2.1, p.2.1.2.2.2] [] p.2.2} := ⟨(_, (_, (_, _, _, _), _, _), _), rfl⟩
/-- the counts that the law keeps before a level -/
structure ManyAt (n : Nat) (M : Int → Int → Int) (src : Int) (P : List Ent) (j : Nat) (S : List (Int × Int)) : Prop where
  nd : (S.map (·.1)).Nodup
  mem : ∀ v x, (v, x) ∈ S ↔ ∃ l ps, (v, l, ps) ∈ P ∧ (l < (j : Int) ∨ l = 0) ∧ x = Rw (rangeI n) M src l.toNat v
section
variable {prog : Program} {w : World} {A : Around} {E : Value → Shared → Prop} {σ s : Shared} {ps r1 r2 r3 r4 r5 : List HP} {mg mb m : Str → Option Value} {L ro ma : Addr} {k n : Nat} {tn : Tok} {row : List Int} {S : List (Int × Int)} {f : Int → Int}
/-- new = [v for v in range(n) if row[v] > 0 and v not in many] -/
theorem law_new {Q : Flow → Shared → Prop} (X : PF (KF w) σ mg mb) (hh : A.handled = none) (hn6 : n ≤ 6) (O : Own σ ((L, IsNs m) :: ps) s) (hpn : Pick (L + 2) (IsC (some (.int n tn))) ps r1) (hpr : Pick (L + 8) (IsC (some (.ref ro))) ps r2) (hro : Pick ro (IsI ((rangeI n).map f)) ps r3) (hpm : Pick (L + 9) (IsC (some (.ref ma))) ps r4) (hma : Pick ma (IsDI prog w S) ps r5)
    (h : ∀ nw s', Own σ ((L, IsNs (upd m "new" (.ref nw))) :: (nw, IsI ((rangeI n).filter fun v => decide (0 < f v) && !(intAt S v).isSome)) :: ps) s' → Q .next s') : wpAny (model prog w) A (exec (lawW w).1.2.1.1 (lawEnv w L)) Q E s := by
  refine r_compAssign (σ := σ) (by rfl) (cl := [("row", L + 8), ("many", L + 9)]) (by rfl) (by decide) (by rfl) (by decide) ?_
  refine wpAny_Call_NameR (r_bltn X O ?_ (v := .type "range") (hv := by kernel_rfl))
  refine PyProof.Rows.callWith_type1 (spliced_more (r_cell (c := L + 2) O (spliced_none ?_) hpn.there))
  refine r_range O fun ra s1 O1 => ?_
  refine r_iterRange O1 .here (by omega) fun I s2 O2 => ?_
  refine ⟨I, _, _, rfl, O2, fun O' q => (iterRg (n := n)).self (i := 0) O' q, fun acc C s3 O3 => ?_⟩
  have O4 := O3.to (qs := (C, IsNs fun _ => none) :: (acc, IsL []) :: (I, IsRI ((0 : Nat) : Int) ((n : Int) - ((0 : Nat) : Int)) 1) :: (L, IsNs m) :: ps)
  refine comp_last (xs := rangeI n) (It := fun j => IsRI j ((n : Int) - j) 1) (Need := fun _ => True) (i := 0) (outs := []) rfl rfl iterRg hh rfl rfl rfl (fun _ => True) (fun _ _ _ => trivial) (fun j outs => IntsAre outs (((rangeI n).take j).filter fun v => decide (0 < f v) && !(intAt S v).isSome) ∧ outs.length ≤ 100) (fun j outs hI => by omega)
    (fun _ _ => (L, IsNs m) :: ps) (fun _ _ _ => trivial) O4 trivial ⟨.nil, Nat.zero_le _⟩ (Nat.zero_le _) (fun j x t m2 outs s5 E5 hx _ hm2 hI O5 => ?_) (fun m2 outs s5 _ hI O5 => ?_)
  · obtain ⟨hI1, hI2⟩ := hI
    have hxm : x ∈ rangeI n := List.mem_of_getElem? hx
    obtain ⟨hx0, hxn⟩ := mem_rangeI.mp hxm
    have gx : (rangeI n)[x.toNat]? = some x := by
      obtain ⟨hxj, _⟩ := rangeI_get hx
      have e : x.toNat = j := by rw [hxj]; rfl
      rw [e]; exact hx
    have hjn : j < n := (rangeI_get hx).2
    have hol : outs.length ≤ j := by
      have h1 := List.length_filter_le (fun v => decide (0 < f v) && !(intAt S v).isSome) ((rangeI n).take j)
      rw [List.length_take, rangeI_len] at h1
      have := ints_len hI1
      omega
    have hft : (((rangeI n).take (j + 1)).filter fun v => decide (0 < f v) && !(intAt S v).isSome) = (((rangeI n).take j).filter fun v => decide (0 < f v) && !(intAt S v).isSome) ++ (if (decide (0 < f x) && !(intAt S x).isSome) = true then [x] else []) := by
      rw [List.take_add_one, hx, List.filter_append]
      congr 1
      show List.filter _ [x] = _
      rw [List.filter_cons, List.filter_nil]
    rw [hft]
    refine wpAny_tests_one (wpAny_isTrue_BoolOp (wpAny_allTrue_And_cons (wpAny_isTrue_Compare1 (Subscript_ (r_cell (c := L + 8) O5 (r_ld O5 ?_ (hv := hm2)) hpr.there.there.there.there)))))
    refine r_subI (l := ro) (x := f x) O5 (fun t6 s6 O6 => ?_) hx0 (by omega) (by rw [List.getElem?_map, gx]; rfl) hro.there.there.there.there
    refine r_int O6 fun t7 s7 O7 => PyProof.Rows.gt_int (wpAny_truthy_bool ?_)
    cases h1 : decide (0 < f x) with
    | false => exact ⟨⟨by simpa using hI1, hI2⟩, O7⟩
    | true =>
      refine wpAny_allTrue_And_cons (wpAny_isTrue_Compare1 (r_ld O7 (r_cell (c := L + 9) O7 ?_ hpm.there.there.there.there) (hv := hm2)))
      refine r_notinDI (d := ma) X O7 (fun s8 O8 => wpAny_truthy_bool ?_) hma.there.there.there.there
      cases h2 : (!(intAt S x).isSome) with
      | false => exact ⟨⟨by simpa using hI1, hI2⟩, O8⟩
      | true =>
        refine wpAny_allTrue_And_nil ?_
        rw [if_pos rfl]
        refine r_ld O8 ⟨⟨?_, ?_⟩, O8⟩ (hv := hm2)
        · exact ints_snoc hI1 x t
        · rw [List.length_append]; simp only [List.length_cons, List.length_nil]; omega
  · rw [rangeI_len, List.take_of_length_le (by rw [rangeI_len]; exact Nat.le_refl _)] at hI
    refine ⟨rfl, wpAny_assign_Name (r_st O5 (fun s6 O6 => ?_) (hp := (by repeat (first | exact Pick.here | apply Pick.there | apply Pick.right))))⟩
    refine ⟨m2, _, O6.to (qs := (C, IsNs m2) :: (acc, IsL outs) :: (L, IsNs (upd m "new" (.ref acc))) :: ps), fun s7 O7 => ?_⟩
    exact h acc s7 ((O7.closeI hI.1).perm (.swap _ _ _))
end
end Mine
end

-- Law9
section
open PySem PySem.W PyProof.Rows PySem.Calls
set_option Elab.async false
set_option maxRecDepth 100000
set_option maxHeartbeats 2000000
set_option linter.unusedVariables false
namespace Mine
noncomputable def lawV (w : World) : {p : Stmt × Stmt × Stmt × Stmt // (lawW w).1.2.1.2.1.2.2.1 = [p.1, p.2.1, p.2.2.1, p.2.2.2]} := ⟨(_, _, _, _), rfl⟩
section
variable {prog : Program} {w : World} {A : Around} {E : Value → Shared → Prop} {σ s : Shared} {ps r1 r2 r3 r4 r5 r6 r7 : List HP} {mg mb m : Str → Option Value} {L sd pd : Addr} {k n : Nat} {tv tl : Tok} {v lv : Int} {la : Int → Addr} {P : List Ent} {pr : List Int}
/-- if v not in told or steps[v] != level or len(set(told[v])) != len(told[v]): return False -/
theorem law_v1 {Q : Flow → Shared → Prop} (X : PF (KF w) σ mg mb) (hh : A.handled = none) (hP : (keysOf P).Nodup) (hv : (v, lv, pr) ∈ P) (hnd : pr.Nodup) (hz : pr.length ≤ 100)
    (O : Own σ ps s) (h1 : Pick (L + 4) (IsC (some (.int v tv))) ps r1) (h2 : Pick (L + 6) (IsC (some (.ref pd))) ps r2) (h3 : Pick (L + 7) (IsC (some (.ref sd))) ps r3) (h4 : Pick (L + 10) (IsC (some (.int lv tl))) ps r4) (h5 : Pick sd (IsDI prog w (P.map fun e => (e.1, e.2.1))) ps r5) (h6 : Pick pd (IsD prog w (P.map fun e => (e.1, .ref (la e.1)))) ps r6) (h7 : Pick (la v) (IsI pr) ps r7)
    (h : ∀ s', Own σ ps s' → Q .next s') : wpAny (model prog w) A (exec (lawV w).1.1 (lawEnv w L)) Q E s := by
  have he : entAt P v = some (lv, pr) := entAt_mem (e := (lv, pr)) hP hv
  have hvat : valueAt (P.map fun e => (e.1, (.ref (la e.1) : Value))) v = some (.ref (la v)) := by rw [vAt_ents, he]; rfl
  have hint : intAt (P.map fun e => (e.1, e.2.1)) v = some lv := by rw [intAt_ents, he]; rfl
  refine wpAny_If (wpAny_isTrue_BoolOp (wpAny_allTrue_Or_cons (wpAny_isTrue_Compare1 (r_cell (c := L + 4) O (r_cell (c := L + 6) O ?_ h2) h1))))
  refine r_notin (d := pd) X O (fun s1 O1 => wpAny_truthy_bool ?_) h6
  rw [hvat]
  refine wpAny_allTrue_Or_cons (wpAny_isTrue_Compare1 (Subscript_ (r_cell (c := L + 7) O1 (r_cell (c := L + 4) O1 ?_ h1) h3)))
  refine r_subDI (d := sd) O1 (fun t2 s2 O2 => ?_) hint h5
  refine r_cell (c := L + 10) O2 (r_ne (wpAny_truthy_bool ?_)) h4
  rw [show (lv != lv) = false from by simp]
  refine wpAny_allTrue_Or_cons (wpAny_isTrue_Compare1 (wpAny_Call_NameR (r_bltn X O2 ?_ (v := .builtin "len") (hv := by kernel_rfl))))
  refine PyProof.Rows.callWith_builtin1 (spliced_more (wpAny_Call_NameR (r_bltn X O2 ?_ (v := .type "set") (hv := by kernel_rfl))))
  refine PyProof.Rows.callWith_type1 (spliced_more (Subscript_ (r_cell (c := L + 6) O2 (r_cell (c := L + 4) O2 ?_ h1) h2)))
  refine PyProof.Rows.tail_any (O2.dict h6).typeIs slot_dict_getitem.lookup (r_getItem O2 (fun s3 O3 => ?_) hvat h6) (by with_unfolding_all rfl)
  refine spliced_none (r_set O3 hh h7 hnd hz fun a s4 O4 => spliced_none ?_)
  refine r_lenSet O4 .here hz fun u5 s5 O5 => ?_
  have O6 := O5.tail
  refine wpAny_Call_NameR (r_bltn X O6 ?_ (v := .builtin "len") (hv := by kernel_rfl))
  refine PyProof.Rows.callWith_builtin1 (spliced_more (Subscript_ (r_cell (c := L + 6) O6 (r_cell (c := L + 4) O6 ?_ h1) h2)))
  refine r_sub (d := pd) O6 (fun s7 O7 => spliced_none ?_) hvat h6
  refine r_lenI O7 h7 (by omega) fun u8 s8 O8 => r_ne (wpAny_truthy_bool ?_)
  rw [show (((pr.length : Nat) : Int) != (pr.length : Nat)) = false from by simp]
  exact wpAny_allTrue_Or_nil (wpAny_execs_nil (h s8 O8))
/-- many[v] = sum([many[u] for u in told[v]]) -/
theorem law_v3 {Q : Flow → Shared → Prop} {S : List (Int × Int)} {f : Int → Int} {ma : Addr} (X : PF (KF w) σ mg mb) (hh : A.handled = none) (hP : (keysOf P).Nodup) (hv : (v, lv, pr) ∈ P) (hz : pr.length ≤ 100) (hS : ∀ u ∈ pr, intAt S u = some (f u)) (hSv : intAt S v = none) (hSz : S.length ≤ 100)
    (O : Own σ ps s) (h1 : Pick (L + 4) (IsC (some (.int v tv))) ps r1) (h2 : Pick (L + 6) (IsC (some (.ref pd))) ps r2) (h3 : Pick (L + 9) (IsC (some (.ref ma))) ps r3) (h5 : Pick ma (IsDI prog w S) ps r5) (h6 : Pick pd (IsD prog w (P.map fun e => (e.1, .ref (la e.1)))) ps r6) (h7 : Pick (la v) (IsI pr) ps r7)
    (h : ∀ s', Own σ ((ma, IsDI prog w (S ++ [(v, (pr.map f).sum)])) :: r5) s' → Q .next s') : wpAny (model prog w) A (exec (lawV w).1.2.2.1 (lawEnv w L)) Q E s := by
  have he : entAt P v = some (lv, pr) := entAt_mem (e := (lv, pr)) hP hv
  have hvat : valueAt (P.map fun e => (e.1, (.ref (la e.1) : Value))) v = some (.ref (la v)) := by rw [vAt_ents, he]; rfl
  refine wpAny_Assign_Subscript (wpAny_Call_NameR (r_bltn X O ?_ (v := .builtin "sum") (hv := by kernel_rfl)))
  refine PyProof.Rows.callWith_builtin1 (spliced_more (r_comp (σ := σ) (cl := [("many", L + 9)]) (by rfl) (by decide) (by rfl) (by decide) ?_))
  refine Subscript_ (r_cell (c := L + 6) O (r_cell (c := L + 4) O ?_ h1) h2)
  refine r_sub (d := pd) O (fun s1 O1 => ?_) hvat h6
  refine r_iterI O1 (fun I s2 O2 => ?_) h7
  refine ⟨I, _, _, rfl, O2, fun O' q => (iterI (xs := pr)).self (i := 0) O' q, fun acc C s3 O3 => ?_⟩
  refine comp_last (xs := pr) (It := IsLI (la v)) (Need := fun ps => ∃ r, Pick (la v) (IsI pr) ps r) (i := 0) (outs := []) rfl rfl iterI hh rfl rfl rfl (fun _ => True) (fun _ _ _ => trivial) (fun j outs => IntsAre outs ((pr.map f).take j)) (fun j outs hI => by rw [ints_len hI, List.length_take, List.length_map]; omega)
    (fun _ _ => ps) (fun _ _ _ => ⟨_, .there (.there h7)⟩) O3 trivial .nil (Nat.zero_le _) (fun j x t m2 outs s5 E5 hx _ hm2 hI O5 => ?_) (fun m2 outs s5 _ hI O5 => ?_)
  · refine wpAny_tests_nil ?_
    rw [if_pos rfl]
    refine Subscript_ (r_cell (c := L + 9) O5 (r_ld O5 ?_ (hv := hm2)) h3.there.there.there)
    refine r_subDI (d := ma) O5 (fun t6 s6 O6 => ⟨?_, O6⟩) (hS x (List.mem_of_getElem? hx)) h5.there.there.there
    rw [List.take_add_one, List.getElem?_map, hx]
    exact ints_snoc hI _ _
  · rw [List.take_of_length_le (by rw [List.length_map]; exact Nat.le_refl _)] at hI
    refine ⟨rfl, m2, _, O5, fun s6 O6 => spliced_none ?_⟩
    refine r_sum (O6.closeI hI) hh .here fun u7 s7 O7 => ?_
    refine r_cell (c := L + 9) O7.tail (r_cell (c := L + 4) O7.tail ?_ h1) h3
    exact r_setDI (d := ma) O7.tail (fun s8 O8 => h s8 O8) hSv h5 (by rw [sizeLine_eq]; omega)
/-- if many[v] != row[v]: return False -/
theorem law_v4 {Q : Flow → Shared → Prop} {S : List (Int × Int)} {f : Int → Int} {ma ro : Addr} (X : PF (KF w) σ mg mb) (hn6 : n ≤ 6) (hvn : v ∈ rangeI n) (hS : intAt S v = some (f v))
    (O : Own σ ps s) (h1 : Pick (L + 4) (IsC (some (.int v tv))) ps r1) (h2 : Pick (L + 8) (IsC (some (.ref ro))) ps r2) (h3 : Pick (L + 9) (IsC (some (.ref ma))) ps r3) (h5 : Pick ma (IsDI prog w S) ps r5) (h6 : Pick ro (IsI ((rangeI n).map f)) ps r6)
    (h : ∀ s', Own σ ps s' → Q .next s') : wpAny (model prog w) A (exec (lawV w).1.2.2.2 (lawEnv w L)) Q E s := by
  obtain ⟨hv0, hvl⟩ := mem_rangeI.mp hvn
  have gv : (rangeI n)[v.toNat]? = some v := by
    rw [rangeI_at (by omega)]
    show some ((v.toNat : Nat) : Int) = some v
    congr 1; omega
  refine wpAny_If (wpAny_isTrue_Compare1 (Subscript_ (r_cell (c := L + 9) O (r_cell (c := L + 4) O ?_ h1) h3)))
  refine r_subDI (d := ma) O (fun t1 s1 O1 => ?_) hS h5
  refine Subscript_ (r_cell (c := L + 8) O1 (r_cell (c := L + 4) O1 ?_ h1) h2)
  refine r_subI (l := ro) (x := f v) O1 (fun t2 s2 O2 => r_ne (wpAny_truthy_bool ?_)) hv0 (by omega) (by rw [List.getElem?_map, gv]; rfl) h6
  rw [show (f v != f v) = false from by simp]
  exact wpAny_execs_nil (h s2 O2)
end
end Mine
end

-- Law10
section
open PySem PySem.W PyProof.Rows PySem.Calls
set_option Elab.async false
set_option maxRecDepth 100000
set_option maxHeartbeats 2000000
set_option linter.unusedVariables false
namespace Mine
theorem rangeI_le (n : Nat) : (rangeI n).Pairwise (· ≤ ·) := by
  unfold rangeI
  exact List.Pairwise.map _ (fun a b hab => Int.ofNat_le.mpr (Nat.le_of_lt hab)) List.pairwise_lt_range
/-- the kept predecessors, sorted, for every level -/
theorem BDone.preds0 {L : List Int} {M : Int → Int → Int} {rowf : Int → List Int} {src : Int} {P : List Ent} (B : BDone L M rowf src P) {v l : Int} {ps ys : List Int} (h : (v, l, ps) ∈ P) (hL : L.Pairwise (· ≤ ·)) (h1 : ys.Perm ps) (h2 : ys.Pairwise (· ≤ ·)) :
    ys = L.filter fun u => decide (M u v = 1) && decide (intAt (P.map fun e => (e.1, e.2.1)) u = some (l - 1)) := by
  have h0 := (B.lvl h).1
  dsimp only at h0
  by_cases e : l = 0
  · subst e
    obtain ⟨_, rfl⟩ := B.zeroE h
    have : ys = [] := h1.eq_nil
    subst this
    symm
    rw [List.filter_eq_nil_iff]
    intro u _ hu
    rw [Bool.and_eq_true, decide_eq_true_eq, decide_eq_true_eq, intAt_ents] at hu
    obtain ⟨_, hu⟩ := hu
    obtain ⟨⟨l', qs⟩, he, e⟩ := Option.map_eq_some_iff.mp hu
    have := (B.lvl (entAt_some he)).1
    dsimp only at this e
    omega
  · rw [B.predsE h (by omega) hL h1 h2]
    refine List.filter_congr fun u _ => ?_
    rw [intAt_ents]
    by_cases a : M u v = 1 <;> by_cases b : (entAt P u).map (·.1) = some (l - 1) <;> simp [a, b]
section
variable {prog : Program} {w : World} {A : Around} {E : Value → Shared → Prop} {σ s : Shared} {ps r1 r2 r3 r4 r5 r6 r7 r8 r9 r10 : List HP} {mg mb m : Str → Option Value} {L sd pd ta : Addr} {k n : Nat} {tv tl tn : Tok} {v lv src : Int} {la rt : Int → Addr} {P : List Ent} {pr : List Int} {M : Int → Int → Int} {rowf : Int → List Int}
theorem r_getDI {S : List (Int × Int)} {K : Frag} {d : Addr} {k : Int} {t : Tok} {r : List HP} {Q : Value → Shared → Prop} (X : PF K σ mg mb) (O : Own σ ps s) (hp : Pick d (IsDI prog w S) ps r) (h : ∀ vv s', Own σ ps s' → (match intAt S k with | some x => ∃ u, vv = .int x u | none => vv = .none) → Q vv s') :
    wpAny (model prog w) A (call (.builtin "dict.get") [.ref d, .int k t]) Q E s := by
  obtain ⟨tk, O1⟩ := O.openDI hp
  refine r_get1 X O1 (fun s' O' => h _ s' (O'.closeDI.perm hp.perm.symm) ?_) .here
  cases hv : intAt S k with
  | none => dsimp only; rw [valueAt_intAt_none tk hv]; rfl
  | some x =>
    obtain ⟨u, hu⟩ := valueAt_intAt tk hv
    exact ⟨u, by rw [hu]; rfl⟩
/-- if sorted(told[v]) != [u for u in range(n) if table[u][v] == 1 and steps.get(u) == level - 1]: return False -/
theorem law_v2 {Q : Flow → Shared → Prop} (X : PF (KF w) σ mg mb) (hr : Room A (k + 8)) (hn6 : n ≤ 6) (B : BDone (rangeI n) M rowf src P) (hv : (v, lv, pr) ∈ P) (hz : pr.length < 64)
    (O : Own σ ps s) (h1 : Pick (L + 4) (IsC (some (.int v tv))) ps r1) (h2 : Pick (L + 6) (IsC (some (.ref pd))) ps r2) (h3 : Pick (L + 7) (IsC (some (.ref sd))) ps r3) (h4 : Pick (L + 10) (IsC (some (.int lv tl))) ps r4) (h5 : Pick sd (IsDI prog w (P.map fun e => (e.1, e.2.1))) ps r5) (h6 : Pick pd (IsD prog w (P.map fun e => (e.1, .ref (la e.1)))) ps r6) (h7 : Pick (la v) (IsI pr) ps r7)
    (h8 : Pick (L + 3) (IsC (some (.ref ta))) ps r8) (h9 : Pick (L + 2) (IsC (some (.int n tn))) ps r9) (h10 : Pick ta (IsL (tabL rt n)) ps r10) (h11 : ∀ u ∈ rangeI n, ∃ r, Pick (rt u) (IsI ((rangeI n).map (M u))) ps r)
    (h : ∀ s', Own σ ps s' → Q .next s') : wpAny (model prog w) A (exec (lawV w).1.2.1 (lawEnv w L)) Q E s := by
  have he : entAt P v = some (lv, pr) := entAt_mem (e := (lv, pr)) B.keys hv
  have hvat : valueAt (P.map fun e => (e.1, (.ref (la e.1) : Value))) v = some (.ref (la v)) := by rw [vAt_ents, he]; rfl
  have hvn : v ∈ rangeI n := B.good.choose_spec.sub v (key_ent hv)
  obtain ⟨hv0, hvl⟩ := mem_rangeI.mp hvn
  have gv : (rangeI n)[v.toNat]? = some v := by
    rw [rangeI_at (by omega)]
    show some ((v.toNat : Nat) : Int) = some v
    congr 1; omega
  refine wpAny_If (wpAny_isTrue_Compare1 (wpAny_Call_NameR (r_bltn X O ?_ (v := .builtin "sorted") (hv := by kernel_rfl))))
  refine PyProof.Rows.callWith_builtin1 (spliced_more (Subscript_ (r_cell (c := L + 6) O (r_cell (c := L + 4) O ?_ h1) h2)))
  refine r_sub (d := pd) O (fun s1 O1 => spliced_none ?_) hvat h6
  refine r_sorted O1 h7 hz fun y1 ys s2 p1 p2 O2 => ?_
  have hys := B.preds0 hv (rangeI_le n) p1 p2
  refine r_comp (σ := σ) (cl := [("v", L + 4), ("table", L + 3), ("steps", L + 7), ("level", L + 10)]) (by rfl) (by decide) (by rfl) (by decide) ?_
  refine wpAny_Call_NameR (r_bltn X O2 ?_ (v := .type "range") (hv := by kernel_rfl))
  refine PyProof.Rows.callWith_type1 (spliced_more (r_cell (c := L + 2) O2 (spliced_none ?_) h9.there))
  refine r_range O2 fun ra s3 O3 => ?_
  refine r_iterRange O3 .here (by omega) fun I s4 O4 => ?_
  refine ⟨I, _, _, rfl, O4, fun O' q => (iterRg (n := n)).self (i := 0) O' q, fun acc C s5 O5 => ?_⟩
  have O6 := O5.to (qs := (C, IsNs fun _ => none) :: (acc, IsL []) :: (I, IsRI ((0 : Nat) : Int) ((n : Int) - ((0 : Nat) : Int)) 1) :: (y1, IsI ys) :: ps)
  refine comp_last (xs := rangeI n) (It := fun j => IsRI j ((n : Int) - j) 1) (Need := fun _ => True) (i := 0) (outs := []) rfl rfl iterRg hr.hh rfl rfl rfl (fun _ => True) (fun _ _ _ => trivial) (fun j outs => IntsAre outs (((rangeI n).take j).filter fun u => decide (M u v = 1) && decide (intAt (P.map fun e => (e.1, e.2.1)) u = some (lv - 1))) ∧ outs.length ≤ 100) (fun j outs hI => by omega)
    (fun _ _ => (y1, IsI ys) :: ps) (fun _ _ _ => trivial) O6 trivial ⟨.nil, Nat.zero_le _⟩ (Nat.zero_le _) (fun j x t m2 outs s7 E7 hx _ hm2 hI O7 => ?_) (fun m2 outs s7 _ hI O7 => ?_)
  · obtain ⟨hI1, hI2⟩ := hI
    have hxm : x ∈ rangeI n := List.mem_of_getElem? hx
    obtain ⟨hx0, hxn⟩ := mem_rangeI.mp hxm
    have gx : (rangeI n)[x.toNat]? = some x := by
      obtain ⟨hxj, _⟩ := rangeI_get hx
      have e : x.toNat = j := by rw [hxj]; rfl
      rw [e]; exact hx
    have hjn : j < n := (rangeI_get hx).2
    generalize hpd : (fun u => decide (M u v = 1) && decide (intAt (P.map fun e => (e.1, e.2.1)) u = some (lv - 1))) = pp at hI1 ⊢
    have hppx : pp x = (decide (M x v = 1) && decide (intAt (P.map fun e => (e.1, e.2.1)) x = some (lv - 1))) := by rw [← hpd]
    have hol : outs.length ≤ j := by
      have h1 := List.length_filter_le pp ((rangeI n).take j)
      rw [List.length_take, rangeI_len] at h1
      have := ints_len hI1
      omega
    have hft : (((rangeI n).take (j + 1)).filter pp) = (((rangeI n).take j).filter pp) ++ (if pp x = true then [x] else []) := by
      rw [List.take_add_one, hx, List.filter_append]
      congr 1
      show List.filter _ [x] = _
      rw [List.filter_cons, List.filter_nil]
    rw [hft, hppx]
    obtain ⟨q11, hq11⟩ := h11 x hxm
    refine wpAny_tests_one (wpAny_isTrue_BoolOp (wpAny_allTrue_And_cons (wpAny_isTrue_Compare1 (Subscript_ (Subscript_ (r_cell (c := L + 3) O7 (r_ld O7 ?_ (hv := hm2)) h8.there.there.there.there))))))
    refine r_subL (l := ta) (v := .ref (rt x)) O7 ?_ hx0 (by omega) (by rw [List.getElem?_map, gx]; rfl) h10.there.there.there.there
    refine r_cell (c := L + 4) O7 ?_ h1.there.there.there.there
    refine r_subI (l := rt x) (x := M x v) O7 (fun t8 s8 O8 => ?_) hv0 (by omega) (by rw [List.getElem?_map, gv]; rfl) hq11.there.there.there.there
    refine r_int O8 fun t9 s9 O9 => r_eq (wpAny_truthy_bool ?_)
    by_cases ha : M x v = 1
    · rw [decide_eq_true ha, show (M x v == 1) = true from by simp [ha]]
      refine wpAny_allTrue_And_cons (wpAny_isTrue_Compare1 (methodCall_KW (r_cell (c := L + 7) O9 ?_ h3.there.there.there.there)))
      refine r_methGetDI (d := sd) O9 ?_ h5.there.there.there.there
      refine callWith_method1 (spliced_more (r_ld O9 (spliced_none ?_) (hv := hm2)))
      refine r_getDI (d := sd) X O9 h5.there.there.there.there fun vv s10 O10 hvv => ?_
      refine wpAny_BinOp (r_cell (c := L + 10) O10 (r_int O10 fun t11 s11 O11 => r_minus O11 fun t12 s12 O12 => ?_) h4.there.there.there.there)
      cases hi : intAt (P.map fun e => (e.1, e.2.1)) x with
      | none =>
        rw [hi] at hvv
        dsimp only at hvv
        subst hvv
        refine PySem.EqNone.eq_none_int (wpAny_truthy_bool ?_)
        exact ⟨⟨by simpa using hI1, hI2⟩, O12⟩
      | some z =>
        rw [hi] at hvv
        obtain ⟨u, rfl⟩ := hvv
        refine r_eq (wpAny_truthy_bool ?_)
        by_cases hb : z = lv - 1
        · subst hb
          rw [show ((lv - 1 : Int) == lv - 1) = true from by simp]
          refine wpAny_allTrue_And_nil ?_
          rw [if_pos rfl]
          refine r_ld O12 ⟨⟨?_, ?_⟩, O12⟩ (hv := hm2)
          · simpa using ints_snoc hI1 x t
          · rw [List.length_append]; simp only [List.length_cons, List.length_nil]; omega
        · rw [show (z == lv - 1) = false from by simp [hb]]
          exact ⟨⟨by simpa [hb] using hI1, hI2⟩, O12⟩
    · rw [decide_eq_false ha, show (M x v == 1) = false from by simp [ha]]
      exact ⟨⟨by simpa using hI1, hI2⟩, O9⟩
  · rw [rangeI_len, List.take_of_length_le (by rw [rangeI_len]; exact Nat.le_refl _)] at hI
    refine ⟨rfl, m2, _, O7, fun s8 O8 => ?_⟩
    refine r_neI (l := y1) (a := acc) (O8.closeI hI.1) (by have := hr.hu; omega) (.there .here) .here ?_
    refine wpAny_truthy_bool ?_
    rw [decide_eq_true hys]
    exact wpAny_execs_nil (h s8 O8.tail.tail)
end
end Mine
end

-- Many
section
open PySem PySem.W PyProof.Rows PySem.Calls
set_option Elab.async false
set_option maxRecDepth 100000
set_option maxHeartbeats 2000000
set_option linter.unusedVariables false
namespace Mine
theorem intAt_mem {S : List (Int × Int)} {k x : Int} (h : intAt S k = some x) : (k, x) ∈ S := by
  unfold intAt at h
  obtain ⟨p, hp, rfl⟩ := Option.map_eq_some_iff.mp h
  have h1 := List.find?_some hp
  simp at h1
  subst h1
  exact List.mem_of_find?_eq_some hp
theorem intAt_none_iff {S : List (Int × Int)} {k : Int} : intAt S k = none ↔ k ∉ S.map (·.1) := by
  unfold intAt
  rw [Option.map_eq_none_iff, List.find?_eq_none]
  constructor
  · intro h hm
    obtain ⟨p, hp, e⟩ := List.mem_map.mp hm
    exact h p hp (by simp [e])
  · intro h p hp q
    exact h (List.mem_map.mpr ⟨p, hp, by simpa using q⟩)
theorem intAt_of {S : List (Int × Int)} (hn : (S.map (·.1)).Nodup) {k x : Int} (h : (k, x) ∈ S) : intAt S k = some x := by
  unfold intAt
  induction S with
  | nil => cases h
  | cons q S ih =>
    rw [List.map_cons, List.nodup_cons] at hn
    rw [List.find?_cons]
    rcases List.mem_cons.mp h with rfl | a
    · simp
    · have : q.1 ≠ k := fun e => hn.1 (List.mem_map.mpr ⟨_, a, e.symm⟩)
      simp only [this, decide_false]
      exact ih hn.2 a
theorem intAt_app {S T : List (Int × Int)} {k x : Int} (h : intAt S k = some x) : intAt (S ++ T) k = some x := by
  unfold intAt at h ⊢
  obtain ⟨p, hp, rfl⟩ := Option.map_eq_some_iff.mp h
  rw [List.find?_append, hp]
  rfl
section
variable {n : Nat} {M : Int → Int → Int} {rowf : Int → List Int} {src : Int} {P : List Ent} {S : List (Int × Int)} {j : Nat}
abbrev newAt (n : Nat) (M : Int → Int → Int) (src : Int) (S : List (Int × Int)) (j : Nat) : List Int := (rangeI n).filter fun v => decide (0 < Rw (rangeI n) M src j v) && !(intAt S v).isSome
theorem newAt_nodup : (newAt n M src S j).Nodup := (rangeI_nodup n).filter _
theorem ManyAt.init (B : BDone (rangeI n) M rowf src P) : ManyAt n M src P 0 [(src, 1)] where
  nd := by simp
  mem := fun v x => by
    rw [List.mem_singleton]
    constructor
    · intro e
      injection e with e1 e2
      subst e1 e2
      obtain ⟨R, hR⟩ := B.good.choose_spec.head
      exact ⟨0, [], by rw [hR]; exact .head _, .inr rfl, by simp [Rw]⟩
    · rintro ⟨l, ps, h, hl, rfl⟩
      have h0 := (B.lvl h).1
      have : l = 0 := by
        rcases hl with q | q
        · dsimp only at h0; simp at q; omega
        · exact q
      subst this
      rw [(B.zeroE h).1]
      simp [Rw]
theorem ManyAt.notin (B : BDone (rangeI n) M rowf src P) (W : ManyAt n M src P j S) {v l : Int} {pr : List Int} (h : (v, l, pr) ∈ P) : v ∉ S.map (·.1) ↔ ¬ (l < (j : Int) ∨ l = 0) := by
  constructor
  · intro hn hl
    exact hn (List.mem_map.mpr ⟨(v, _), (W.mem v _).mpr ⟨l, pr, h, hl, rfl⟩, rfl⟩)
  · intro hl hm
    obtain ⟨⟨v', x⟩, hp, e⟩ := List.mem_map.mp hm
    dsimp only at e
    subst e
    obtain ⟨l', ps, h', hl', _⟩ := (W.mem _ _).mp hp
    obtain ⟨e1, _⟩ := uniq B.keys h h'
    exact hl (e1 ▸ hl')
theorem ManyAt.mem_new (B : BDone (rangeI n) M rowf src P) (W : ManyAt n M src P j S) {v : Int} : v ∈ newAt n M src S j ↔ 0 < j ∧ ∃ pr, (v, (j : Int), pr) ∈ P := by
  rw [List.mem_filter, Bool.and_eq_true, decide_eq_true_eq]
  have e : (!(intAt S v).isSome) = true ↔ v ∉ S.map (·.1) := by
    rw [← intAt_none_iff]
    cases intAt S v <;> simp
  rw [e]
  constructor
  · rintro ⟨hv, hp, hn⟩
    obtain ⟨l, ps, hl, hlj⟩ := B.reach j v hv hp
    have h1 := (W.notin B hl).mp hn
    have h2 := (B.lvl hl).1
    dsimp only at h2
    have e : l = (j : Int) := by omega
    subst e
    exact ⟨by omega, ps, hl⟩
  · rintro ⟨hj, pr, h⟩
    exact ⟨B.good.choose_spec.sub v (key_ent h), B.pos j v pr h, (W.notin B h).mpr (by omega)⟩
theorem ManyAt.turn (B : BDone (rangeI n) M rowf src P) (W : ManyAt n M src P j S) {v : Int} (hv : v ∈ newAt n M src S j) :
    ∃ k pr, j = k + 1 ∧ (v, (j : Int), pr) ∈ P ∧ (∀ u ∈ pr, intAt S u = some (Rw (rangeI n) M src k u)) ∧ (pr.map (Rw (rangeI n) M src k)).sum = Rw (rangeI n) M src j v := by
  obtain ⟨hj, pr, h⟩ := (W.mem_new B).mp hv
  obtain ⟨k, rfl⟩ : ∃ k, j = k + 1 := ⟨j - 1, by omega⟩
  refine ⟨k, pr, rfl, h, fun u hu => ?_, (B.count k h).symm⟩
  obtain ⟨_, _, hps⟩ := B.good.choose_spec.pos _ h (by dsimp only; push_cast; omega)
  dsimp only at hps
  obtain ⟨⟨qs, hq⟩, _⟩ := (hps u).mp hu
  have e : ((k + 1 : Nat) : Int) - 1 = (k : Int) := by push_cast; omega
  rw [e] at hq
  exact intAt_of W.nd ((W.mem u _).mpr ⟨k, qs, hq, .inl (by push_cast; omega), by simp⟩)
theorem ManyAt.next (B : BDone (rangeI n) M rowf src P) (W : ManyAt n M src P j S) : ManyAt n M src P (j + 1) (S ++ (newAt n M src S j).map fun v => (v, Rw (rangeI n) M src j v)) where
  nd := by
    rw [List.map_append, List.map_map]
    have e : ((fun p : Int × Int => p.1) ∘ fun v => (v, Rw (rangeI n) M src j v)) = id := rfl
    rw [e, List.map_id]
    refine List.nodup_append.mpr ⟨W.nd, newAt_nodup, fun a ha b hb q => ?_⟩
    subst q
    have := (List.mem_filter.mp hb).2
    rw [Bool.and_eq_true] at this
    have h2 := this.2
    cases hi : intAt S a with
    | none => exact intAt_none_iff.mp hi ha
    | some x => rw [hi] at h2; simp at h2
  mem := fun v x => by
    rw [List.mem_append, W.mem]
    constructor
    · rintro (⟨l, ps, h, hl, rfl⟩ | h)
      · exact ⟨l, ps, h, by omega, rfl⟩
      · obtain ⟨v', hv', e⟩ := List.mem_map.mp h
        injection e with e1 e2
        subst e1 e2
        obtain ⟨hj, pr, h⟩ := (W.mem_new B).mp hv'
        exact ⟨j, pr, h, .inl (by push_cast; omega), by simp⟩
    · rintro ⟨l, ps, h, hl, rfl⟩
      have h0 := (B.lvl h).1
      dsimp only at h0
      by_cases q : l < (j : Int) ∨ l = 0
      · exact .inl ⟨l, ps, h, q, rfl⟩
      · have e : l = (j : Int) := by push_cast at hl; omega
        subst e
        refine .inr (List.mem_map.mpr ⟨v, (W.mem_new B).mpr ⟨by omega, ps, h⟩, by simp⟩)
theorem ManyAt.sub (B : BDone (rangeI n) M rowf src P) (W : ManyAt n M src P j S) : ∀ x ∈ S.map (·.1), x ∈ keysOf P := fun x hx => by
  obtain ⟨⟨v, y⟩, hp, rfl⟩ := List.mem_map.mp hx
  obtain ⟨l, ps, h, _, _⟩ := (W.mem _ _).mp hp
  exact key_ent h
theorem ManyAt.len (B : BDone (rangeI n) M rowf src P) (W : ManyAt n M src P j S) : S.length ≤ n := by
  have h1 := nodup_length W.nd fun x hx => B.good.choose_spec.sub x (W.sub B x hx)
  rwa [List.length_map, rangeI_len] at h1
theorem ManyAt.done (B : BDone (rangeI n) M rowf src P) (W : ManyAt n M src P n S) : (S.map (·.1)).Perm (keysOf P) :=
  perm_of_mem W.nd B.keys fun x => ⟨W.sub B x, fun hx => by
    obtain ⟨⟨v, l, ps⟩, h, rfl⟩ := List.mem_map.mp hx
    have := (B.lvl h).2
    rw [rangeI_len] at this
    exact List.mem_map.mpr ⟨(v, _), (W.mem v _).mpr ⟨l, ps, h, .inl this, rfl⟩, rfl⟩⟩
end
end Mine
end

-- Mis
section
open PySem PySem.W PyProof.Rows PySem.Calls
set_option Elab.async false
set_option maxRecDepth 100000
set_option maxHeartbeats 2000000
set_option linter.unusedVariables false
namespace Mine
section
variable {prog : Program} {w : World} {A : Around} {E : Value → Shared → Prop} {σ s : Shared} {env : Env} {ps r r1 r2 r3 r4 : List HP} {K : Frag} {mg mb : Str → Option Value} {t1 t2 a1 a2 : Addr} {xs : List Int} {x : Int} {u1 u2 : Tok}
/-- two pairs of a list of ints and an int, alike -/
theorem r_eqT2 {Q : Value → Shared → Prop} (O : Own σ ps s) (hu : A.in1.in1.units + 64 < cLine) (hu2 : A.units < cLine) (h1 : Pick t1 (IsT [.ref a1, .int x u1]) ps r1) (h2 : Pick t2 (IsT [.ref a2, .int x u2]) ps r2) (h3 : Pick a1 (IsI xs) ps r3) (h4 : Pick a2 (IsI xs) ps r4) (h : Q (.bool true) s) :
    wpAny (model prog w) A (compareOp .Eq (.ref t1) (.ref t2)) Q E s := by
  obtain ⟨o1, ho1, n1, e1⟩ := O.get h1
  obtain ⟨o2, ho2, n2, e2⟩ := O.get h2
  obtain ⟨o3, ho3, vs3, n3, e3, hi3⟩ := O.get h3
  obtain ⟨o4, ho4, vs4, n4, e4, hi4⟩ := O.get h4
  have he0 : SeqAt.EqAt A.in1 s (.ref a1) (.ref a2) true := by
    have := keq_ints (A := A.in1) (s := s) (a := a1) (b := a2) ⟨o3, ho3, by rw [e3], n3, by rw [e3]⟩ hi3 ⟨o4, ho4, by rw [e4], n4, by rw [e4]⟩ hi4 hu
    rw [decide_eq_true rfl] at this
    exact this.of_in1
  have he1 : SeqAt.EqAt A.in1 s (.int x u1) (.int x u2) true := by
    have := SeqAt.EqAt.int_int (A := A.in1) (s := s) x u1 x u2
    rwa [show (x == x) = true from by simp] at this
  refine SeqAt.eq_tupleAt (e := fun _ => true) (items := #[.ref a1, .int x u1]) (items2 := #[.ref a2, .int x u2]) ⟨o1, ho1, by rw [e1], n1, by rw [e1]⟩ ⟨o2, ho2, by rw [e2], n2, by rw [e2]⟩ hu2 (fun j j1 j2 => ?_) ?_
  · match j, j1 with
    | 0, _ => exact he0
    | 1, _ => exact he1
  · exact h
/-- x += v upon a cell -/
theorem r_augC {y : Str} {npos pos : Pos} {value : Expr} {c : Addr} {a : Int} {t : Tok} {Q : Flow → Shared → Prop} (O : Own σ ps s) (hp : Pick c (IsC (some (.int a t))) ps r)
    (h : wpAny (model prog w) A (eval value env) (fun v s1 => ∃ b u, v = .int b u ∧ Own σ ps s1 ∧ ∀ t' s2, Own σ ((c, IsC (some (.int (a + b) t'))) :: r) s2 → Q .next s2) E s)
    (hc : env.cells.lookup y = some c := by rfl) (hl : env.kindOf y = some .cell := by rfl) (hk : env.scope.kind = .function := by rfl) :
    wpAny (model prog w) A (exec (.AugAssign (.Name y npos) .Add value pos) env) Q E s := by
  refine wpAny_AugAssign_Name (wpAny_loadName_cell hk hl hc (cell_of O hp) (wpAny_mono h (fun v s1 h1 => ?_) fun _ _ e => e))
  obtain ⟨b, u, rfl, O1, h2⟩ := h1
  refine wpAny_iadd_int ?_
  exact r_stC (c := c) (O1.toks (t := s1.toks + 1)) (fun s2 O2 => h2 _ s2 O2) hp hc hl hk
end
end Mine
end

-- Law11
section
open PySem PySem.W PyProof.Rows PySem.Calls
set_option Elab.async false
set_option maxRecDepth 100000
set_option maxHeartbeats 2000000
set_option linter.unusedVariables false
namespace Mine
section
variable {prog : Program} {w : World} {A : Around} {E : Value → Shared → Prop} {σ s : Shared} {R r1 r2 r3 r4 r5 r6 r7 r8 r9 r10 r12 r13 r14 r15 : List HP} {mg mb m : Str → Option Value} {L sd pd ta ma ro nw : Addr} {k n j : Nat} {tv tl tn : Tok} {v lv src : Int} {la rt : Int → Addr} {P : List Ent} {pr : List Int} {M : Int → Int → Int} {rowf : Int → List Int} {S : List (Int × Int)} {vo : Option Value}
/-- for v in new: the four statements -/
theorem law_for {Q : Flow → Shared → Prop} (X : PF (KF w) σ mg mb) (hr : Room A (k + 8)) (hn6 : n ≤ 6) (B : BDone (rangeI n) M rowf src P) (W : ManyAt n M src P j S)
    (O : Own σ ((L + 4, IsC vo) :: (ma, IsDI prog w S) :: R) s) (h1 : Pick L (IsNs m) R r1) (hm : m "new" = some (.ref nw)) (h2 : Pick (L + 6) (IsC (some (.ref pd))) R r2) (h3 : Pick (L + 7) (IsC (some (.ref sd))) R r3) (h4 : Pick (L + 10) (IsC (some (.int j tl))) R r4) (h5 : Pick sd (IsDI prog w (P.map fun e => (e.1, e.2.1))) R r5) (h6 : Pick pd (IsD prog w (P.map fun e => (e.1, .ref (la e.1)))) R r6)
    (h7 : ∀ v e, entAt P v = some e → ∃ r, Pick (la v) (IsI e.2) R r)
    (h8 : Pick (L + 3) (IsC (some (.ref ta))) R r8) (h9 : Pick (L + 2) (IsC (some (.int n tn))) R r9) (h10 : Pick ta (IsL (tabL rt n)) R r10) (h11 : ∀ u ∈ rangeI n, ∃ r, Pick (rt u) (IsI ((rangeI n).map (M u))) R r)
    (h12 : Pick (L + 8) (IsC (some (.ref ro))) R r12) (h13 : Pick ro (IsI ((rangeI n).map (Rw (rangeI n) M src j))) R r13) (h14 : Pick (L + 9) (IsC (some (.ref ma))) R r14) (h15 : Pick nw (IsI (newAt n M src S j)) R r15)
    (h : ∀ vo' s', Own σ ((L + 4, IsC vo') :: (ma, IsDI prog w (S ++ (newAt n M src S j).map fun v => (v, Rw (rangeI n) M src j v))) :: R) s' → Q .next s') :
    wpAny (model prog w) A (exec (.For (lawW w).1.2.1.2.1.1 (lawW w).1.2.1.2.1.2.1 (lawW w).1.2.1.2.1.2.2.1 [] (lawW w).1.2.1.2.1.2.2.2) (lawEnv w L)) Q E s := by
  refine wpAny_For (r_ld O ?_ (hp := h1.there.there) (hv := hm))
  refine r_iterI O (fun I s1 O1 => ?_) h15.there.there
  have hSl := W.len B
  have hnl : (newAt n M src S j).length ≤ n := by
    have := List.length_filter_le (fun v => decide (0 < Rw (rangeI n) M src j v) && !(intAt S v).isSome) (rangeI n)
    rwa [rangeI_len] at this
  refine codeAny_forLoop (fun q s => ∃ (i : Nat) (vo : Option Value), q = (newAt n M src S j).length - i ∧ i ≤ (newAt n M src S j).length ∧ Own σ ((I, IsLI nw i) :: (L + 4, IsC vo) :: (ma, IsDI prog w (S ++ ((newAt n M src S j).take i).map fun v => (v, Rw (rangeI n) M src j v))) :: R) s) ?_ _ ⟨0, vo, rfl, Nat.zero_le _, by simpa using O1⟩
  rintro q s2 ⟨i, vo, rfl, hi, O2⟩
  rcases Nat.lt_or_ge i (newAt n M src S j).length with hlt | hge
  · generalize hx : (newAt n M src S j)[i] = x
    have hgx : (newAt n M src S j)[i]? = some x := by rw [List.getElem?_eq_getElem hlt, hx]
    have hxm : x ∈ newAt n M src S j := List.mem_of_getElem? hgx
    refine r_nextI O2 hgx (fun t s3 O3 => ?_) h15.there.there
    refine wpAny_assign_Name (r_stC (c := L + 4) O3 (fun s4 O4 => ?_) (.there .here))
    obtain ⟨k', pr, hjk, hP, hS, hsum⟩ := W.turn B hxm
    have he : entAt P x = some ((j : Int), pr) := entAt_mem (e := ((j : Int), pr)) B.keys hP
    obtain ⟨q7, h7'⟩ := h7 x _ he
    have hpz : pr.length ≤ n := by
      have := B.good.choose_spec.predsN _ hP
      rwa [rangeI_len] at this
    have hxn : x ∈ rangeI n := B.good.choose_spec.sub x (key_ent hP)
    generalize hT : ((newAt n M src S j).take i).map (fun v => (v, Rw (rangeI n) M src j v)) = T at O4
    have hTl : T.length ≤ n := by rw [← hT, List.length_map, List.length_take]; omega
    have hkeys : (S ++ T).map (·.1) = S.map (·.1) ++ (newAt n M src S j).take i := by
      rw [List.map_append, ← hT, List.map_map]
      congr 1
      exact List.map_id _
    have hnone : intAt (S ++ T) x = none := by
      rw [intAt_none_iff, hkeys, List.mem_append]
      rintro (a | a)
      · have hf := (List.mem_filter.mp hxm).2
        rw [Bool.and_eq_true] at hf
        have h2 := hf.2
        cases hi : intAt S x with
        | none => exact intAt_none_iff.mp hi a
        | some y => rw [hi] at h2; simp at h2
      · have := not_mem_take' newAt_nodup hlt
        rw [hx] at this
        exact this a
    refine wpAny_execs_cons (law_v1 (v := x) (lv := j) (pr := pr) (la := la) X hr.hh B.keys hP (B.nodupPs hP) (by omega) O4 .here h2.there.there.there h3.there.there.there h4.there.there.there h5.there.there.there h6.there.there.there h7'.there.there.there fun s5 O5 => ?_)
    refine wpAny_execs_cons (law_v2 (v := x) (lv := j) (pr := pr) (la := la) (k := k) (rt := rt) X hr hn6 B hP (by omega) O5 .here h2.there.there.there h3.there.there.there h4.there.there.there h5.there.there.there h6.there.there.there h7'.there.there.there h8.there.there.there h9.there.there.there h10.there.there.there (fun u hu => by obtain ⟨q, hq⟩ := h11 u hu; exact ⟨_, hq.there.there.there⟩) fun s6 O6 => ?_)
    refine wpAny_execs_cons (law_v3 (v := x) (lv := j) (pr := pr) (la := la) (f := Rw (rangeI n) M src k') (ma := ma) (S := S ++ T) X hr.hh B.keys hP (by omega) (fun u hu => intAt_app (hS u hu)) hnone (by rw [List.length_append]; omega) O6 .here h2.there.there.there h14.there.there.there (.there (.there .here)) h6.there.there.there h7'.there.there.there fun s7 O7 => ?_)
    rw [hsum, List.append_assoc] at O7
    have hT2 : T ++ [(x, Rw (rangeI n) M src j x)] = ((newAt n M src S j).take (i + 1)).map (fun v => (v, Rw (rangeI n) M src j v)) := by
      rw [List.take_add_one, hgx, List.map_append, hT]; rfl
    have hsome : intAt (S ++ (T ++ [(x, Rw (rangeI n) M src j x)])) x = some (Rw (rangeI n) M src j x) := by
      rw [← List.append_assoc]
      refine intAt_of ?_ (List.mem_append_right _ (.head _))
      rw [List.map_append]
      have hn1 : ((S ++ T).map (·.1)).Nodup := by
        have hn0 := (W.next B).nd
        rw [List.map_append, List.map_map] at hn0
        rw [hkeys]
        have e : ((fun p : Int × Int => p.1) ∘ fun v => (v, Rw (rangeI n) M src j v)) = id := rfl
        rw [e, List.map_id] at hn0
        refine hn0.sublist (List.Sublist.append_left (List.take_sublist _ _) _)
      refine List.nodup_append.mpr ⟨hn1, by simp, fun a ha b hb e => ?_⟩
      simp at hb
      subst hb e
      exact intAt_none_iff.mp hnone ha
    refine wpAny_execs_cons (law_v4 (v := x) (f := Rw (rangeI n) M src j) (ma := ma) (ro := ro) X hn6 hxn hsome O7 (.there .here) h12.there.there.there h14.there.there.there .here h13.there.there.there fun s8 O8 => ?_)
    refine wpAny_execs_nil ⟨(newAt n M src S j).length - (i + 1), by omega, i + 1, some (.int x t), rfl, hlt, ?_⟩
    rw [hT2] at O8
    exact O8.to
  · have hie : i = (newAt n M src S j).length := by omega
    subst hie
    refine r_endI O2 hr.hh (List.getElem?_eq_none (Nat.le_refl _)) (fun s3 O3 => ?_) h15.there.there
    rw [List.take_length] at O3
    exact wpAny_execs_nil (h vo s3 O3)
end
end Mine
end

-- Law12
section
open PySem PySem.W PyProof.Rows PySem.Calls
set_option Elab.async false
set_option maxRecDepth 100000
set_option maxHeartbeats 2000000
set_option linter.unusedVariables false
namespace Mine
section
variable {prog : Program} {w : World} {A : Around} {E : Value → Shared → Prop} {σ s : Shared} {R r1 r2 r3 r4 r5 r6 r7 r8 r9 r10 r12 r13 r14 r15 : List HP} {mg mb m : Str → Option Value} {L sd pd ta ma ro nw : Addr} {k n j : Nat} {tv tl tn : Tok} {v lv src : Int} {la rt : Int → Addr} {P : List Ent} {pr : List Int} {M : Int → Int → Int} {rowf : Int → List Int} {S : List (Int × Int)} {vo : Option Value}
/-- row = [sum([row[u] * table[u][v] for u in range(n)]) for v in range(n)] -/
theorem law_row {f : Int → Int} {Q : Flow → Shared → Prop} (X : PF (KF w) σ mg mb) (hh : A.handled = none) (hn6 : n ≤ 6) (hbit : ∀ u v, M u v = 0 ∨ M u v = 1)
    (O : Own σ ((L + 8, IsC (some (.ref ro))) :: R) s)
    (h8 : Pick (L + 3) (IsC (some (.ref ta))) R r8) (h9 : Pick (L + 2) (IsC (some (.int n tn))) R r9) (h10 : Pick ta (IsL (tabL rt n)) R r10) (h11 : ∀ u ∈ rangeI n, ∃ r, Pick (rt u) (IsI ((rangeI n).map (M u))) R r)
    (h13 : Pick ro (IsI ((rangeI n).map f)) R r13)
    (h : ∀ ro' s', Own σ ((L + 8, IsC (some (.ref ro'))) :: (ro', IsI ((rangeI n).map fun v => ((rangeI n).map fun u => f u * M u v).sum)) :: R) s' → Q .next s') :
    wpAny (model prog w) A (exec (lawW w).1.2.1.2.2.1 (lawEnv w L)) Q E s := by
  refine wpAny_Assign_Name (r_compC (σ := σ) (cx := "v") (cl := [("table", L + 3), ("row", L + 8), ("n", L + 2)]) (by rfl) (fun _ => rfl) (fun _ => rfl) (by rfl) (by decide) ?_)
  refine wpAny_Call_NameR (r_bltn X O ?_ (v := .type "range") (hv := by kernel_rfl))
  refine PyProof.Rows.callWith_type1 (spliced_more (r_cell (c := L + 2) O (spliced_none ?_) h9.there))
  refine r_range O fun ra s1 O1 => ?_
  refine r_iterRange O1 .here (by omega) fun I s2 O2 => ?_
  refine ⟨I, _, _, rfl, O2, fun O' q => (iterRg (n := n)).self (i := 0) O' q, fun acc C Ca s3 O3 => ?_⟩
  have O4 := O3.to (qs := (C, IsNs fun _ => none) :: (Ca, IsC none) :: (acc, IsL []) :: (I, IsRI ((0 : Nat) : Int) ((n : Int) - ((0 : Nat) : Int)) 1) :: (L + 8, IsC (some (.ref ro))) :: R)
  refine comp_lastC (xs := rangeI n) (It := fun j => IsRI j ((n : Int) - j) 1) (Need := fun _ => True) (i := 0) (outs := []) rfl rfl iterRg hh rfl rfl rfl rfl (fun j outs => IntsAre outs (((rangeI n).map fun v => ((rangeI n).map fun u => f u * M u v).sum).take j)) (fun j outs hI => by rw [ints_len hI, List.length_take, List.length_map, rangeI_len]; omega)
    (fun j outs => (L + 8, IsC (some (.ref ro))) :: R) (fun _ _ _ _ => trivial) O4 .nil (Nat.zero_le _) (fun j x t m2 outs s5 E5 hx hI O5 => ?_) (fun m2 o2 outs s5 hI O5 => ?_)
  · refine wpAny_tests_nil ?_
    rw [if_pos rfl]
    have hxm : x ∈ rangeI n := List.mem_of_getElem? hx
    obtain ⟨hx0, hxi⟩ := mem_rangeI.mp hxm
    have gx : (rangeI n)[x.toNat]? = some x := by
      obtain ⟨hxj, _⟩ := rangeI_get hx
      have e : x.toNat = j := by rw [hxj]; rfl
      rw [e]; exact hx
    refine wpAny_Call_NameR (r_bltn X O5 ?_ (v := .builtin "sum") (hv := by kernel_rfl))
    refine PyProof.Rows.callWith_builtin1 (spliced_more (r_comp (σ := σ) (cl := [("v", Ca), ("table", L + 3), ("row", L + 8)]) (by rfl) (by decide) (by rfl) (by decide) ?_))
    refine wpAny_Call_NameR (r_bltn X O5 ?_ (v := .type "range") (hv := by kernel_rfl))
    refine PyProof.Rows.callWith_type1 (spliced_more (r_cell (c := L + 2) O5 (spliced_none ?_) (.there (.there (.there (.there h9.there))))))
    refine r_range O5 fun ra3 s6 O6 => ?_
    refine r_iterRange O6 .here (by omega) fun I3 s7 O7 => ?_
    refine ⟨I3, _, _, rfl, O7, fun O' q => (iterRg (n := n)).self (i := 0) O' q, fun acc3 C3 s8 O8 => ?_⟩
    have O9 := O8.to (qs := (C3, IsNs fun _ => none) :: (acc3, IsL []) :: (I3, IsRI ((0 : Nat) : Int) ((n : Int) - ((0 : Nat) : Int)) 1) :: (C, IsNs m2) :: (Ca, IsC (some (.int x t))) :: (acc, IsL outs) :: (I, IsRI ((j + 1 : Nat) : Int) ((n : Int) - ((j + 1 : Nat) : Int)) 1) :: (L + 8, IsC (some (.ref ro))) :: R)
    refine comp_last (xs := rangeI n) (It := fun j => IsRI j ((n : Int) - j) 1) (Need := fun _ => True) (i := 0) (outs := []) rfl rfl iterRg hh rfl rfl rfl (fun _ => True) (fun _ _ _ => trivial) (fun j' outs => IntsAre outs (((rangeI n).map fun u => f u * M u x).take j')) (fun j outs hI => by rw [ints_len hI, List.length_take, List.length_map, rangeI_len]; omega)
      (fun _ _ => (C, IsNs m2) :: (Ca, IsC (some (.int x t))) :: (acc, IsL outs) :: (I, IsRI ((j + 1 : Nat) : Int) ((n : Int) - ((j + 1 : Nat) : Int)) 1) :: (L + 8, IsC (some (.ref ro))) :: R) (fun _ _ _ => trivial) O9 trivial .nil (Nat.zero_le _) (fun j' y t' m3 outs3 s10 E6 hy _ hm3 hI' O10 => ?_) (fun m3 outs3 s10 _ hI' O10 => ?_)
    · refine wpAny_tests_nil ?_
      rw [if_pos rfl]
      have hym : y ∈ rangeI n := List.mem_of_getElem? hy
      obtain ⟨hy0, hyi⟩ := mem_rangeI.mp hym
      have gy : (rangeI n)[y.toNat]? = some y := by
        obtain ⟨hyj, _⟩ := rangeI_get hy
        have e : y.toNat = j' := by rw [hyj]; rfl
        rw [e]; exact hy
      obtain ⟨q1, hq1⟩ := h11 y hym
      refine wpAny_BinOp (Subscript_ (r_cell (c := L + 8) O10 (r_ld O10 ?_ (hv := hm3)) (by repeat (first | exact Pick.here | apply Pick.there))))
      refine r_subI (l := ro) (x := f y) O10 (fun t11 s11 O11 => ?_) hy0 (by omega) (by rw [List.getElem?_map, gy]; rfl) (.there (.there (.there (.there (.there (.there (.there (.there h13))))))))
      refine Subscript_ (Subscript_ (r_cell (c := L + 3) O11 (r_ld O11 ?_ (hv := hm3)) (.there (.there (.there (.there (.there (.there (.there (.there h8))))))))))
      refine r_subL (l := ta) (v := .ref (rt y)) O11 ?_ hy0 (by omega) (by rw [List.getElem?_map, gy]; rfl) (.there (.there (.there (.there (.there (.there (.there (.there h10))))))))
      refine r_cell (c := Ca) O11 ?_ (by repeat (first | exact Pick.here | apply Pick.there))
      refine r_subI (l := rt y) (x := M y x) O11 (fun t12 s12 O12 => ?_) hx0 (by omega) (by rw [List.getElem?_map, gx]; rfl) (.there (.there (.there (.there (.there (.there (.there (.there hq1))))))))
      refine r_mulR O12 (bits_small (by rcases hbit y x with e | e <;> rw [e] <;> decide)) fun t13 s13 O13 => ⟨?_, O13⟩
      rw [List.take_add_one, List.getElem?_map, hy]
      exact ints_snoc hI' _ _
    · rw [rangeI_len, List.take_of_length_le (by rw [List.length_map, rangeI_len]; exact Nat.le_refl _)] at hI'
      refine ⟨rfl, m3, _, O10, fun s11 O11 => spliced_none ?_⟩
      refine r_sum (O11.closeI hI') hh .here fun u12 s12 O12 => ⟨?_, O12.tail⟩
      rw [List.take_add_one, List.getElem?_map, hx]
      exact ints_snoc hI _ _
  · rw [rangeI_len, List.take_of_length_le (by rw [List.length_map, rangeI_len]; exact Nat.le_refl _)] at hI
    have O6 : Own σ ((C, IsNs m2) :: (acc, IsL outs) :: (L + 8, IsC (some (.ref ro))) :: R) s5 := O5.to
    refine ⟨rfl, m2, _, O6, fun s7 O7 => ?_⟩
    refine r_stC (c := L + 8) (O7.closeI hI) (fun s8 O8 => ?_) (.there .here)
    exact h acc s8 O8
end
end Mine
end

-- Law13
section
open PySem PySem.W PyProof.Rows PySem.Calls
set_option Elab.async false
set_option maxRecDepth 100000
set_option maxHeartbeats 2000000
set_option linter.unusedVariables false
namespace Mine
section
variable {prog : Program} {w : World} {A : Around} {E : Value → Shared → Prop} {σ s : Shared} {R r1 r2 r3 r4 r5 r6 r7 r8 r9 r10 r12 r13 r14 r15 : List HP} {mg mb m : Str → Option Value} {L sd pd ta ma ro nw : Addr} {k n j : Nat} {tv tl tn : Tok} {v lv src : Int} {la rt : Int → Addr} {P : List Ent} {pr : List Int} {M : Int → Int → Int} {rowf : Int → List Int} {S : List (Int × Int)} {vo : Option Value}
theorem law_while {Q : Flow → Shared → Prop} (X : PF (KF w) σ mg mb) (hr : Room A (k + 8)) (hn6 : n ≤ 6) (B : BDone (rangeI n) M rowf src P)
    (O : Own σ ((L, IsNs m) :: (L + 4, IsC vo) :: (ma, IsDI prog w [(src, 1)]) :: (L + 10, IsC (some (.int 0 tl))) :: (L + 8, IsC (some (.ref ro))) :: (ro, IsI ((rangeI n).map (Rw (rangeI n) M src 0))) :: R) s)
    (h2 : Pick (L + 6) (IsC (some (.ref pd))) R r2) (h3 : Pick (L + 7) (IsC (some (.ref sd))) R r3) (h5 : Pick sd (IsDI prog w (P.map fun e => (e.1, e.2.1))) R r5) (h6 : Pick pd (IsD prog w (P.map fun e => (e.1, .ref (la e.1)))) R r6)
    (h7 : ∀ v e, entAt P v = some e → ∃ r, Pick (la v) (IsI e.2) R r)
    (h8 : Pick (L + 3) (IsC (some (.ref ta))) R r8) (h9 : Pick (L + 2) (IsC (some (.int n tn))) R r9) (h10 : Pick ta (IsL (tabL rt n)) R r10) (h11 : ∀ u ∈ rangeI n, ∃ r, Pick (rt u) (IsI ((rangeI n).map (M u))) R r)
    (h14 : Pick (L + 9) (IsC (some (.ref ma))) R r14)
    (h : ∀ m' vo' S s', (∀ x : Str, x ≠ "new" → m' x = m x) → ManyAt n M src P n S → Own σ ((L, IsNs m') :: (L + 4, IsC vo') :: (ma, IsDI prog w S) :: R) s' → Q .next s') :
    wpAny (model prog w) A (exec (lawB w).1.2.2.2.2.1 (lawEnv w L)) Q E s := by
  rw [(lawW w).2]
  refine wpAny_While (codeAny_whileLoop (fun q s => ∃ (j : Nat) (m' : Str → Option Value) (vo : Option Value) (S : List (Int × Int)) (tl : Tok) (ro : Addr), q = n - j ∧ j ≤ n ∧ (∀ x : Str, x ≠ "new" → m' x = m x) ∧ ManyAt n M src P j S ∧
    Own σ ((L, IsNs m') :: (L + 4, IsC vo) :: (ma, IsDI prog w S) :: (L + 10, IsC (some (.int j tl))) :: (L + 8, IsC (some (.ref ro))) :: (ro, IsI ((rangeI n).map (Rw (rangeI n) M src j))) :: R) s) ?_ _ ⟨0, m, vo, _, tl, ro, rfl, Nat.zero_le _, fun _ _ => rfl, ManyAt.init B, O⟩)
  rintro q s1 ⟨j, m1, vo1, S, tl1, ro1, rfl, hj, hm, W, O1⟩
  refine wpAny_isTrue_Compare1 (r_cell (c := L + 10) O1 (r_cell (c := L + 2) O1 (r_lt (wpAny_truthy_bool ?_)) (.there (.there (.there (.there (.there (.there h9))))))) (.there (.there (.there .here))))
  rcases Nat.lt_or_ge j n with hlt | hge
  · rw [decide_eq_true (by omega)]
    refine wpAny_execs_cons (law_new (f := Rw (rangeI n) M src j) (S := S) (ro := ro1) (ma := ma) (n := n) (tn := tn) X hr.hh hn6 O1 (.there (.there (.there (.there (.there h9))))) (.there (.there (.there .here))) (.there (.there (.there (.there .here)))) (.there (.there (.there (.there (.there h14))))) (.there .here) fun nw s2 O2 => ?_)
    have O3 := O2.to (qs := (L + 4, IsC vo1) :: (ma, IsDI prog w S) :: (L, IsNs (upd m1 "new" (.ref nw))) :: (nw, IsI (newAt n M src S j)) :: (L + 10, IsC (some (.int j tl1))) :: (L + 8, IsC (some (.ref ro1))) :: (ro1, IsI ((rangeI n).map (Rw (rangeI n) M src j))) :: R)
    refine wpAny_execs_cons (law_for (k := k) (la := la) (rt := rt) X hr hn6 B W O3 .here (upd_same _ _ _) h2.there.there.there.there.there h3.there.there.there.there.there (.there (.there .here)) h5.there.there.there.there.there h6.there.there.there.there.there (fun v e he => by obtain ⟨r, hr⟩ := h7 v e he; exact ⟨_, hr.there.there.there.there.there⟩)
      h8.there.there.there.there.there h9.there.there.there.there.there h10.there.there.there.there.there (fun u hu => by obtain ⟨r, hr⟩ := h11 u hu; exact ⟨_, hr.there.there.there.there.there⟩) (.there (.there (.there .here))) (.there (.there (.there (.there .here)))) h14.there.there.there.there.there (.there .here) fun vo2 s4 O4 => ?_)
    have W' := W.next B
    have O5 := O4.to (qs := (L + 8, IsC (some (.ref ro1))) :: (L, IsNs (upd m1 "new" (.ref nw))) :: (L + 4, IsC vo2) :: (ma, IsDI prog w _) :: (L + 10, IsC (some (.int j tl1))) :: (ro1, IsI ((rangeI n).map (Rw (rangeI n) M src j))) :: R)
    refine wpAny_execs_cons (law_row (f := Rw (rangeI n) M src j) X hr.hh hn6 B.bit O5 h8.there.there.there.there.there h9.there.there.there.there.there h10.there.there.there.there.there (fun u hu => by obtain ⟨r, hr⟩ := h11 u hu; exact ⟨_, hr.there.there.there.there.there⟩) (.there (.there (.there (.there .here)))) fun ro2 s6 O6 => ?_)
    refine wpAny_execs_cons (r_augC (c := L + 10) O6 (.there (.there (.there (.there (.there .here))))) (r_int O6 fun t7 s7 O7 => ⟨1, t7, rfl, O7, fun t8 s8 O8 => ?_⟩))
    refine wpAny_execs_nil ⟨n - (j + 1), by omega, j + 1, upd m1 "new" (.ref nw), vo2, _, t8, ro2, rfl, hlt, fun x hx => (upd_other hx rfl).trans (hm x hx), W', ?_⟩
    have e : ((j : Int) + 1) = ((j + 1 : Nat) : Int) := by push_cast; rfl
    rw [e] at O8
    exact O8.to
  · have hie : j = n := by omega
    subst hie
    rw [decide_eq_false (by omega)]
    exact wpAny_execs_nil (h m1 vo1 S s1 hm W O1.to)
end
end Mine
end

-- Law14
section
open PySem PySem.W PyProof.Rows PySem.Calls
set_option Elab.async false
set_option maxRecDepth 100000
set_option maxHeartbeats 2000000
set_option linter.unusedVariables false
namespace Mine
/-- what the calls of predecessor want of the graph -/
structure GIn (prog : Program) (w : World) (R : List HP) (C g gd od av ax nd : Addr) (kvs : List (Str × Value)) (outer nodes : List (Int × Value)) (n : Nat) (rowf : Int → List Int) : Prop where
  ga : GraphAt prog w R C g gd od av ax kvs outer
  node : valueAt kvs "_node" = some (.ref nd)
  hnd : ∃ r, Pick nd (IsD prog w nodes) R r
  ra : ∀ v ∈ rangeI n, RowAt prog w R outer v (rowf v)
section
variable {prog : Program} {w : World} {A : Around} {E : Value → Shared → Prop} {σ s : Shared} {R r1 r2 r3 r4 r5 r6 r7 r8 r9 r10 r12 r13 r14 r15 : List HP} {mg mb m : Str → Option Value} {L sd pd ta fa ma ro nw : Addr} {k n j : Nat} {tv tl tn ts : Tok} {v lv src : Int} {la rt : Int → Addr} {P : List Ent} {pr : List Int} {M : Int → Int → Int} {rowf : Int → List Int} {S : List (Int × Int)} {vo : Option Value}
  {C cp cpd fn g gd od av ax nd : Addr} {nm : Str} {kvs : List (Str × Value)} {outer nodes : List (Int × Value)}
theorem GIn.cons {x : HP} (G : GIn prog w R C g gd od av ax nd kvs outer nodes n rowf) : GIn prog w (x :: R) C g gd od av ax nd kvs outer nodes n rowf where
  ga := G.ga.cons
  node := G.node
  hnd := let ⟨_, h⟩ := G.hnd; ⟨_, h.there⟩
  ra := fun v hv => (G.ra v hv).cons
/-- if sorted(many) != sorted(told) or predecessor(G, start) != told: return False -/
theorem law_13 {Q : Flow → Shared → Prop} (X : PF (KF w) σ mg mb) (hr : Room A (k + 12)) (hn6 : n ≤ 6) (B : BDone (rangeI n) M rowf src P) (hP : bfs rowf none (n + 1 + 1) 0 [(src, 0, [])] [src] = P) (hb : bokBfs rowf (rangeI n) none (n + 1 + 1) 0 [(src, 0, [])] [src]) (W : ManyAt n M src P n S)
    (Gc : GC C cp cpd fn nm) (GI : GIn prog w R C g gd od av ax nd kvs outer nodes n rowf) (hsrc : (valueAt nodes src).isSome = true)
    (O : Own σ R s) (h1 : Pick L (IsNs m) R r1) (hG : m "G" = some (.ref g)) (h2 : Pick (L + 6) (IsC (some (.ref pd))) R r2) (h3 : Pick (L + 9) (IsC (some (.ref ma))) R r3) (h4 : Pick ma (IsDI prog w S) R r4) (h5 : Pick (L + 5) (IsC (some (.int src ts))) R r5) (h6 : Pick pd (IsD prog w (P.map fun e => (e.1, .ref (la e.1)))) R r6)
    (h7 : ∀ v e, entAt P v = some e → ∃ r, Pick (la v) (IsI e.2) R r)
    (h : ∀ s', Own σ R s' → Q .next s') :
    wpAny (model prog w) A (exec ((lawB w).1.2.2.2.2.2.1.head (by intro h; cases h)) (lawEnv w L)) Q E s := by
  have hlen : P.length ≤ n := by
    have := B.good.choose_spec.lenN
    rwa [rangeI_len] at this
  refine wpAny_If (wpAny_isTrue_BoolOp (wpAny_allTrue_Or_cons (wpAny_isTrue_Compare1 (wpAny_Call_NameR (r_bltn X O ?_ (v := .builtin "sorted") (hv := by kernel_rfl))))))
  refine PyProof.Rows.callWith_builtin1 (spliced_more (r_cell (c := L + 9) O (spliced_none ?_) h3))
  refine r_sortedDI (d := ma) X O hr.hh h4 (by have := W.len B; omega) fun y1 ys1 s2 p1 p2 O2 => ?_
  refine wpAny_Call_NameR (r_bltn X O2 ?_ (v := .builtin "sorted") (hv := by kernel_rfl))
  refine PyProof.Rows.callWith_builtin1 (spliced_more (r_cell (c := L + 6) O2 (spliced_none ?_) h2.there))
  refine r_sortedD (d := pd) X O2 hr.hh h6.there (by rw [List.length_map]; omega) fun y2 ys2 s3 q1 q2 O3 => ?_
  have hys : ys1 = ys2 := by
    rw [List.map_map] at q1
    exact sorted_eq ((p1.trans (W.done B)).trans q1.symm) p2 q2
  refine r_neI (l := y1) (a := y2) O3 (by have := hr.hu; omega) (.there .here) .here ?_
  refine wpAny_truthy_bool ?_
  rw [decide_eq_true hys]
  have O4 := O3.tail.tail
  obtain ⟨_, hnd⟩ := GI.hnd
  refine wpAny_allTrue_Or_cons (wpAny_isTrue_Compare1 (wpAny_Call_NameR (r_glob X O4 ?_ (v := .ref 66))))
  refine callWith_K X.K (by rfl) (spliced_more (r_ld O4 (spliced_more (r_cell (c := L + 5) O4 (spliced_none ?_) h5)) (hp := h1) (hv := hG)))
  refine ⟨O4.inK X, wpAny_call ?_⟩
  refine p_any (cut := none) (cutv := .none) (tgv := .none) (rsv := .none) (src := src) (ts := ts) (N := rangeI n) (rowf := rowf) (kk := n + 1 + 1) (n := k) Gc X (hr.less (by omega)) O4 GI.ga GI.node hnd hsrc GI.ra .none ?_ hb ?_
  · exact fun K => binds_K K rfl rfl rfl rfl rfl
  · intro A' E' L' m' nl sd2 pd2 la2 rest s' O' ht hrs hse hpr
    rw [hP] at O'
    refine p_dict O' ht hrs hpr ?_
    refine r_cell (c := L + 6) O' ?_ (.there (.there (.there (.there (.right h2)))))
    refine r_neD (d1 := pd2) (d2 := pd) (la1 := la2) (la2 := la) X O' (by have := hr.hu; show A.units + 1 + 64 < _; omega) (by have := hr.hu; omega) B.keys (.there (.there (.there .here))) (.there (.there (.there (.there (.right h6))))) (fun e he => ?_) (fun e he => ?_) ?_
    · obtain ⟨q, hq⟩ := pick_ent (la := la2) (entAt_mem (e := e.2) B.keys he)
      exact ⟨_, .there (.there (.there (.there (.left hq))))⟩
    · obtain ⟨q, hq⟩ := h7 e.1 e.2 (entAt_mem (e := e.2) B.keys he)
      exact ⟨_, .there (.there (.there (.there (.right hq))))⟩
    · refine wpAny_truthy_bool (wpAny_allTrue_Or_nil (wpAny_execs_nil (h s' ?_)))
      exact Own.right (ps := [(L', IsNs m'), (nl, IsI rest), (sd2, _), (pd2, _)] ++ bfam la2 P) O'
end
end Mine
end

-- DicP
section
open PySem PySem.W PyProof.Rows PySem.Calls
set_option Elab.async false
set_option maxRecDepth 100000
set_option maxHeartbeats 2000000
set_option linter.unusedVariables false
namespace Mine
theorem keys_list_none : typeLookup (.type "list") "keys" = pure none := am_miss_of_fast (by kernel_rfl)
theorem entry_dict_update_loop : entryFor table "dict.update.loop" = some Builtin.«dict.update.loop» := entryFor_of_tree (by kernel_rfl)
theorem plain_dict_update_loop : plainId "dict.update.loop" = true := by decide +kernel
theorem getAttrQ_miss_list {prog : Program} {w : World} {A : Around} {E : Value → Shared → Prop} {s : Shared} {a : Addr} {xs : Array Value} {k : Nat} {name : Str} {Q : Option Value → Shared → Prop}
    (hx : s.heap.get? a = some { cls := .type "list", data := .seq xs k }) (hmiss : typeLookup (.type "list") name = pure none) (hname : (["__module__", "__name__", "__qualname__", "__doc__", "__annotations__"] : List Str).contains name = false) (hA : A.handled = none)
    (h : ∀ h' tk, (∀ b o, s.heap.get? b = some o → h'.get? b = some o) → Q none { s with heap := h', toks := tk }) (hsz : name.length + 100 ≤ sizeLine := by size_fits) :
    wpAny (model prog w) A (getAttr? (.ref a) name) Q E s := by
  obtain ⟨hp, g, d, tk, os⟩ := s
  have hT : ∀ tk', (⟨hp, g, d, tk', os⟩ : Shared).TypeIs (.ref a) "list" := fun _ => ⟨_, hx, rfl⟩
  have f1 := sub_AttributeError
  have f3 := F.slot_list_getattribute.lookup
  have f4 := F.slot_list_getattribute.bind (.ref a)
  have f5 := am_list_getattr_none
  unfold getAttr? getAttrBy? getAttrBy
  repeat (any_goals (first | assumption | exact hT _ | ((with_reducible show wpAny _ _ (call (Value.builtin "list.__getattribute__") _ _) _ _ _); refine call_meets F.slot_list_getattribute (hT _) am_entry_list_getattribute (F.args_list_getattribute_2 _ _) (meets_getattribute_miss_list a xs k #[] name _ hmiss hname hsz) ⟨hx, hA, fun h' tk' e hx' => ?_⟩) | wp_step))
  obtain ⟨t', u', he⟩ := hx'.there
  show wpAny _ _ (getattributeRaised _ _ _ _ _ _ _) _ _ _
  unfold getattributeRaised
  repeat (any_goals (first | assumption | wp_step))
  exact h _ _ hx'.keeps
/-- a pair: an int, a value -/
def IsKV (k : Int) (v : Value) (o : Obj) : Prop := ∃ t, IsT [.int k t, v] o
section
variable {prog : Program} {w : World} {A : Around} {E : Value → Shared → Prop} {σ s : Shared} {ps r : List HP} {K : Frag} {mg mb : Str → Option Value} {d I l : Addr} {outs : List Value} {pairs : List (Int × Value)} {R : Result → Shared → Prop}
theorem stored_new {kvs : List (Int × Value)} {k : Int} {v : Value} (h : k ∉ kvs.map (·.1)) : stored kvs k v = kvs ++ [(k, v)] := stored_absent (valueAt_none_of_not_mem h) v
theorem dict_loop (hh : A.handled = none) (hz : pairs.length ≤ 1000) (hnd : (pairs.map (·.1)).Nodup) (hl : outs.length = pairs.length) (hp : Pick l (IsL outs) ps r) (hts : ∀ (j : Nat) (k : Int) (v : Value), pairs[j]? = some (k, v) → ∃ a r, outs[j]? = some (.ref a) ∧ Pick a (IsKV k v) ps r)
    (hR : ∀ s', Own σ ((d, IsD prog w pairs) :: ps) s' → R (.ok (.ret .none)) s') :
    ∀ (q i : Nat) (t : Tok) (s : Shared), pairs.length - i = q → i ≤ pairs.length → Own σ ((I, IsLI l i) :: (d, IsD prog w (pairs.take i)) :: ps) s →
      codeAny (model prog w) A (.builtin "dict.update.loop" ⟨[.ref d, .ref I, .int i t, .none], []⟩) R s := by
  intro q
  induction q with
  | zero =>
    intro i t s hq hi O
    have e : i = pairs.length := by omega
    subst e
    refine codeAny_builtin entry_dict_update_loop ?_
    rw [Around.under_plainId plain_dict_update_loop _]
    show wpAny _ A.in1 (pyNext (.ref I) >>= _) _ _ s
    refine wpAny_bind (r_endL O (by simp [hh]) (List.getElem?_eq_none (by omega)) (fun s1 O1 => ?_) hp.there)
    show wpAny _ A.in1 (Builtin.Dict.addKeywords d [] >>= _) _ _ s1
    refine wpAny_bind (wpAny_pure (wpAny_pure (hR s1 ?_)))
    rw [List.take_length] at O1
    exact O1
  | succ q ih =>
    intro i t s hq hi O
    have hlt : i < pairs.length := by omega
    obtain ⟨a, r', ho, hpa⟩ := hts i pairs[i].1 pairs[i].2 (List.getElem?_eq_getElem hlt)
    refine codeAny_builtin entry_dict_update_loop ?_
    rw [Around.under_plainId plain_dict_update_loop _]
    show wpAny _ A.in1 (pyNext (.ref I) >>= _) _ _ s
    refine wpAny_bind (r_nextL O ho (fun s1 O1 => ?_) hp.there)
    obtain ⟨oo, hoo, tt, nn, rfl⟩ := O1.get hpa.there.there
    show wpAny _ A.in1 (holding [Value.ref a] _ >>= _) _ _ s1
    refine wpAny_bind (wpAny_holding (wpAny_bind (wpAny_tryCatch ?_)))
    unfold Builtin.Dict.pairItems
    refine wpAny_bind (wpAny_typeOf (T := "tuple") ⟨_, hoo, rfl⟩ ?_)
    dsimp only
    rw [if_pos (by decide)]
    refine wpAny_bind ?_
    refine wpAny_seqItems (items := #[.int pairs[i].1 tt, pairs[i].2]) hoo rfl ?_
    refine wpAny_pure ?_
    show wpAny _ A.in1 (holding [Value.int pairs[i].1 tt, pairs[i].2] (dictSet d (.int pairs[i].1 tt) pairs[i].2)) _ _ s1
    have hni : pairs[i].1 ∉ (pairs.take i).map (·.1) := fun hm => by
      have hn2 := hnd
      rw [← List.take_append_drop i pairs, List.map_append, List.drop_eq_getElem_cons hlt, List.map_cons] at hn2
      exact (List.nodup_append.mp hn2).2.2 _ hm _ (.head _) rfl
    refine wpAny_holding (wpAny_dictSet_pairs (isInt_self _ tt) (O1.dict (.there .here)) (fun h' hm hs => ?_) (by rw [List.length_take, sizeLine_eq]; omega))
    refine wpAny_pure ⟨plainId_quiet plain_dict_update_loop _, ih (i + 1) _ _ (by omega) hlt ?_⟩
    rw [stored_new hni] at hm
    rw [List.take_add_one, List.getElem?_eq_getElem hlt]
    exact (O1.upd (t := s1.toks + 1) (.there .here) hs.extBut (Heap.dictOf_iff.mp hm)).perm (.swap _ _ _)
/-- dict(list of pairs) -/
theorem r_dictPairs {Q : Value → Shared → Prop} (O : Own σ ps s) (hh : A.handled = none) (hz : pairs.length ≤ 1000) (hnd : (pairs.map (·.1)).Nodup) (hl : outs.length = pairs.length) (hp : Pick l (IsL outs) ps r) (hts : ∀ (j : Nat) (k : Int) (v : Value), pairs[j]? = some (k, v) → ∃ a r, outs[j]? = some (.ref a) ∧ Pick a (IsKV k v) ps r)
    (h : ∀ d s', Own σ ((d, IsD prog w pairs) :: ps) s' → Q (.ref d) s') : wpAny (model prog w) A (call (.type "dict") [.ref l]) Q E s := by
  refine callType_codes (Q₁ := fun obj s₁ => obj = .ref s.heap.objs.size ∧ s₁ = { s with heap := s.heap.push { cls := .type "dict", data := .dict #[] } }) PySem.F.kt_called_dict (PySem.F.kt_typeCall_dict_1 _) PySem.F.entry_dict_init (kt_code_dict_new _ ⟨rfl, rfl⟩) ?_
  rintro obj s₁ ⟨rfl, rfl⟩
  have hnew : (s.heap.push { cls := .type "dict", data := .dict #[] }).DictOf (intKind prog w) s.heap.objs.size [] := Heap.DictOf.new s.heap
  refine ⟨hnew.typeIs, PySem.F.args_dict_init_2 _ _, ?_⟩
  have O1 := O.push (t := s.toks) (isD_nil (prog := prog) (w := w))
  unfold Builtin.«dict.__init__»
  refine wpAny_bind ?_
  unfold Builtin.Dict.selfAndRest
  refine wpAny_bind (wpAny_notOrdered_dict hnew.typeIs ?_)
  show wpAny _ _ (pure (s.heap.objs.size, [Value.ref l])) _ _ _
  refine wpAny_pure ?_
  show wpAny _ _ (Builtin.Dict.updateFrom "dict.__init__" s.heap.objs.size (.ref l) [] .none) _ _ _
  unfold Builtin.Dict.updateFrom
  obtain ⟨oo, hoo, nn, rfl⟩ := O1.get hp.there
  refine wpAny_bind (wpAny_typeOf (T := "list") ⟨_, hoo, rfl⟩ ?_)
  rw [if_pos (by decide)]
  refine wpAny_bind (getAttrQ_miss_list hoo keys_list_none (by decide) (by simp [hh]) fun h' tk hk => ?_)
  rw [if_pos (by rfl)]
  refine wpAny_bind (wpAny_rule (wpAny_bind ?_))
  have O2 := O1.stays (t := tk) hk
  refine r_iterL O2 (fun I s2 O3 => ?_) hp.there
  refine wpAny_pure ⟨plainId_quiet plain_dict_update_loop _, dict_loop (A := A.in1) (by simp [hh]) hz hnd hl hp hts (fun s' O' => ⟨rfl, h _ s' O'⟩) _ 0 _ s2 rfl (Nat.zero_le _) O3⟩
end
end Mine
end

-- Law15
section
open PySem PySem.W PyProof.Rows PySem.Calls
set_option Elab.async false
set_option maxRecDepth 100000
set_option maxHeartbeats 2000000
set_option linter.unusedVariables false
namespace Mine
noncomputable def lawX (w : World) : {p : Stmt × Stmt × Stmt × Stmt // (lawB w).1.2.2.2.2.2.1 = [p.1, p.2.1, p.2.2.1, p.2.2.2]} := ⟨(_, _, _, _), rfl⟩
abbrev zE (la : Int → Addr) (Ps : List Ent) (outs : List Value) : List HP := (Ps.zip outs).map fun p => (refOf p.2, IsKV p.1.1 (.ref (la p.1.1)))
theorem zE_snoc {la : Int → Addr} {Ps : List Ent} {outs : List Value} {e : Ent} {a : Addr} (h : Ps.length = outs.length) : zE la (Ps ++ [e]) (outs ++ [.ref a]) = zE la Ps outs ++ [(a, IsKV e.1 (.ref (la e.1)))] := by
  unfold zE
  rw [List.zip_append h, List.map_append]
  rfl
theorem pick_zE {la : Int → Addr} {e : Ent} {a : Addr} : ∀ {Ps : List Ent} {outs : List Value} {j : Nat}, Ps[j]? = some e → outs[j]? = some (.ref a) → ∃ r, Pick a (IsKV e.1 (.ref (la e.1))) (zE la Ps outs) r
  | [], _, j, h, _ => by simp at h
  | _ :: _, [], j, _, h => by simp at h
  | p :: Ps, o :: outs, 0, h1, h2 => by
    simp at h1 h2
    subst h1 h2
    exact ⟨_, .here⟩
  | p :: Ps, o :: outs, j + 1, h1, h2 => by
    obtain ⟨r, hr⟩ := pick_zE (la := la) (Ps := Ps) (outs := outs) (j := j) (by simpa using h1) (by simpa using h2)
    exact ⟨_, .there hr⟩
section
variable {prog : Program} {w : World} {A : Around} {E : Value → Shared → Prop} {σ s : Shared} {R r1 r2 r3 r4 r5 r6 r7 r8 r9 r10 r12 r13 r14 r15 : List HP} {mg mb m : Str → Option Value} {L sd pd pd2 ta fa ma ro nw : Addr} {k n j : Nat} {tv tl tn ts tb : Tok} {v lv src c : Int} {la la2 rt : Int → Addr} {P : List Ent} {pr : List Int} {M : Int → Int → Int} {rowf : Int → List Int} {S : List (Int × Int)} {vo : Option Value}
  {C cp cpd fn g gd od av ax nd : Addr} {nm : Str} {kvs : List (Str × Value)} {outer nodes : List (Int × Value)} {f0 f1 f2 f3 f4 f5 f6 : Int}
/-- bound = 1 + found[5] % 3 -/
theorem law_14 {Q : Flow → Shared → Prop} (O : Own σ ((L + 11, IsC vo) :: R) s) (h1 : Pick (L + 1) (IsC (some (.ref fa))) R r1) (h2 : Pick fa (IsI [f0, f1, f2, f3, f4, f5, f6]) R r2)
    (h : ∀ (c : Int) t s', 0 < c → Own σ ((L + 11, IsC (some (.int c t))) :: R) s' → Q .next s') :
    wpAny (model prog w) A (exec (lawX w).1.2.1 (lawEnv w L)) Q E s := by
  refine wpAny_Assign_Name (wpAny_BinOp (r_int O fun t1 s1 O1 => ?_))
  refine wpAny_BinOp (Subscript_ (r_cell (c := L + 1) O1 (r_int O1 fun t2 s2 O2 => ?_) h1.there))
  refine r_subI O2 (fun t3 s3 O3 => ?_) (by decide) (by decide) (x := f5) rfl h2.there
  refine r_int O3 fun t4 s4 O4 => r_mod O4 (by decide) fun t5 s5 O5 => r_add O5 fun t6 s6 O6 => ?_
  refine r_stC (c := L + 11) O6 (fun s7 O7 => ?_) .here
  refine h _ _ s7 ?_ O7
  have := Int.fmod_nonneg_of_pos f5 (b := 3) (by decide)
  omega
/-- near = predecessor(G, start, cutoff=bound) -/
theorem law_15 {Q : Flow → Shared → Prop} (X : PF (KF w) σ mg mb) (hr : Room A (k + 12)) (hb : bokBfs rowf (rangeI n) (some c) (n + 1 + 1) 0 [(src, 0, [])] [src])
    (Gc : GC C cp cpd fn nm) (GI : GIn prog w R C g gd od av ax nd kvs outer nodes n rowf) (hsrc : (valueAt nodes src).isSome = true)
    (O : Own σ ((L, IsNs m) :: R) s) (hG : m "G" = some (.ref g)) (h5 : Pick (L + 5) (IsC (some (.int src ts))) R r5) (h6 : Pick (L + 11) (IsC (some (.int c tb))) R r6)
    (h : ∀ pd2 la2 s', Own σ ((L, IsNs (upd m "near" (.ref pd2))) :: (pd2, IsD prog w ((bfs rowf (some c) (n + 1 + 1) 0 [(src, 0, [])] [src]).map fun e => (e.1, .ref (la2 e.1)))) :: (bfam la2 (bfs rowf (some c) (n + 1 + 1) 0 [(src, 0, [])] [src]) ++ R)) s' → Q .next s') :
    wpAny (model prog w) A (exec (lawX w).1.2.2.1 (lawEnv w L)) Q E s := by
  have GI' := GI.cons (x := (L, IsNs m))
  obtain ⟨_, hnd⟩ := GI'.hnd
  refine wpAny_Assign_Name (wpAny_Call_Name_kw (r_glob X O ?_ (v := .ref 66)))
  refine callWith_KW X.K (by rfl) (by rfl) (spliced_more (r_ld O (spliced_more (r_cell (c := L + 5) O (spliced_none ?_) h5.there)) (hp := .here) (hv := hG)))
  refine wpAny_evalAll_cons (wpAny_bind (r_cell (c := L + 11) O (wpAny_bind (wpAny_standAt (wpAny_pure (wpAny_evalAll_nil ?_)))) h6.there))
  refine ⟨O.inK X, wpAny_call ?_⟩
  refine p_any (cut := some c) (cutv := .int c tb) (tgv := .none) (rsv := .none) (src := src) (ts := ts) (N := rangeI n) (rowf := rowf) (kk := n + 1 + 1) (n := k) Gc X (hr.less (by omega)) O GI'.ga GI'.node hnd hsrc GI'.ra (.int c tb) ?_ hb ?_
  · exact fun K => binds_K K rfl rfl rfl rfl rfl
  · intro A' E' L' m' nl sd2 pd2 la2 rest s' O' ht hrs hse hpr
    refine p_dict O' ht hrs hpr ?_
    refine r_st O' (fun s2 O2 => h pd2 la2 s2 ?_) (hp := .there (.there (.there (.there (.right .here)))))
    exact O2.to
theorem r_subDe {d : Addr} {kvs : List (Int × Value)} {ep : Nat} {x : Int} {t : Tok} {u : Value} {value slice : Expr} {Q : Value → Shared → Prop} (O : Own σ R s) (h : ∀ s', Own σ R s' → Q u s') (hv : valueAt kvs x = some u) (hp : Pick d (IsDe prog w kvs ep) R r1)
    (hs : subscripted slice false (.ref d) (.int x t) = operate [.ref d, .int x t] (getItem (.ref d) (.int x t)) := by with_unfolding_all rfl) : wpAny (model prog w) A (subscriptTail value slice (.ref d) (.int x t)) Q E s := by
  have hD : s.heap.DictOf (intKind prog w) d kvs := Heap.dictOf_iff.mpr (let ⟨o, ho, h⟩ := O.get hp; ⟨o, ho, h.toD⟩)
  exact tail_any hD.typeIs slot_dict_getitem.lookup (wpAny_getItem_of (isInt_self x t) hD.mapOf hv (h _ O.toks)) hs
/-- if near != dict([(v, told[v]) for v in told if steps[v] <= bound]): return False -/
theorem law_16 {Q : Flow → Shared → Prop} (X : PF (KF w) σ mg mb) (hr : Room A (k + 12)) (hn6 : n ≤ 6) (B : BDone (rangeI n) M rowf src P)
    (O : Own σ ((pd, IsD prog w (P.map fun e => (e.1, .ref (la e.1)))) :: R) s) (h1 : Pick L (IsNs m) R r1) (hm : m "near" = some (.ref pd2)) (h2 : Pick (L + 6) (IsC (some (.ref pd))) R r2) (h3 : Pick (L + 7) (IsC (some (.ref sd))) R r3) (h4 : Pick (L + 11) (IsC (some (.int c tb))) R r4)
    (h5 : Pick sd (IsDI prog w (P.map fun e => (e.1, e.2.1))) R r5) (h6 : Pick pd2 (IsD prog w ((P.filter fun e => e.2.1 ≤ c).map fun e => (e.1, .ref (la2 e.1)))) R r6)
    (h7 : ∀ v e, entAt P v = some e → ∃ r, Pick (la v) (IsI e.2) R r) (h8 : ∀ e ∈ (P.filter fun e => e.2.1 ≤ c), ∃ r, Pick (la2 e.1) (IsI e.2.2) R r)
    (h : ∀ s', Own σ ((pd, IsD prog w (P.map fun e => (e.1, .ref (la e.1)))) :: R) s' → Q .next s') :
    wpAny (model prog w) A (exec (lawX w).1.2.2.2 (lawEnv w L)) Q E s := by
  have hlen : P.length ≤ n := by
    have := B.good.choose_spec.lenN
    rwa [rangeI_len] at this
  obtain ⟨ep, O0⟩ := O.freezeD
  refine wpAny_If (wpAny_isTrue_Compare1 (r_ld O0 ?_ (hp := h1.there) (hv := hm)))
  refine wpAny_Call_NameR (r_bltn X O0 ?_ (v := .type "dict") (hv := by kernel_rfl))
  refine PyProof.Rows.callWith_type1 (spliced_more (r_comp (σ := σ) (cl := [("told", L + 6), ("steps", L + 7), ("bound", L + 11)]) (by rfl) (by decide) (by rfl) (by decide) ?_))
  refine r_cell (c := L + 6) O0 ?_ h2.there
  refine r_iterD X O0 (fun I s1 O1 => ?_) .here
  refine ⟨I, _, _, rfl, O1, fun O' q => (iterDk (d := pd) (kvs := P.map fun e => (e.1, .ref (la e.1))) (ep := ep)).self (i := 0) O' q, fun acc C s2 O2 => ?_⟩
  refine comp_last (xs := (P.map fun e => (e.1, (.ref (la e.1) : Value))).map (·.1)) (It := fun i => IsKI pd i (P.map fun e => (e.1, (.ref (la e.1) : Value))).length ep) (Need := fun ps => ∃ r, Pick pd (IsDe prog w (P.map fun e => (e.1, .ref (la e.1))) ep) ps r) (i := 0) (outs := []) rfl rfl iterDk hr.hh rfl rfl rfl (fun _ => True) (fun _ _ _ => trivial)
    (fun i outs => outs.length = ((P.take i).filter fun e => decide (e.2.1 ≤ c)).length ∧ ∀ v ∈ outs, ∃ a, v = .ref a) (fun i outs hI => by have := List.length_filter_le (fun e : Ent => decide (e.2.1 ≤ c)) (P.take i); rw [List.length_take] at this; omega)
    (fun i outs => zE la ((P.take i).filter fun e => decide (e.2.1 ≤ c)) outs ++ ((pd, IsDe prog w (P.map fun e => (e.1, .ref (la e.1))) ep) :: R)) (fun _ _ _ => ⟨_, .there (.there (.right .here))⟩) O2 trivial ⟨rfl, fun _ h => nomatch h⟩ (Nat.zero_le _) (fun i x t m2 outs s5 E5 hx _ hm2 hI O5 => ?_) (fun m2 outs s5 _ hI O5 => ?_)
  · obtain ⟨hI1, hI2⟩ := hI
    rw [List.getElem?_map, List.getElem?_map] at hx
    obtain ⟨e', he', hxe⟩ := Option.map_eq_some_iff.mp hx
    obtain ⟨e, he, rfl⟩ := Option.map_eq_some_iff.mp he'
    dsimp only at hxe
    subst hxe
    have heP : e ∈ P := List.mem_of_getElem? he
    have hent : entAt P e.1 = some e.2 := entAt_mem (e := e.2) B.keys heP
    have hft : ((P.take (i + 1)).filter fun e => decide (e.2.1 ≤ c)) = ((P.take i).filter fun e => decide (e.2.1 ≤ c)) ++ (if decide (e.2.1 ≤ c) = true then [e] else []) := by
      rw [List.take_add_one, he, List.filter_append]
      congr 1
      show List.filter _ [e] = _
      rw [List.filter_cons, List.filter_nil]
    rw [hft]
    refine wpAny_tests_one (wpAny_isTrue_Compare1 (Subscript_ (r_cell (c := L + 7) O5 (r_ld O5 ?_ (hv := hm2)) (.there (.there (.there (.right (.there h3))))))))
    refine r_subDI (d := sd) (x := e.2.1) O5 (fun t6 s6 O6 => ?_) (by rw [intAt_ents, hent]; rfl) (.there (.there (.there (.right (.there h5)))))
    refine r_cell (c := L + 11) O6 (r_le (wpAny_truthy_bool ?_)) (.there (.there (.there (.right (.there h4)))))
    cases hd : decide (e.2.1 ≤ c) with
    | false =>
      simp only [Bool.false_eq_true, if_false, List.append_nil]
      exact ⟨⟨hI1, hI2⟩, O6⟩
    | true =>
      simp only [if_true]
      refine r_Tuple (spliced_more (r_ld O6 (spliced_more (Subscript_ (r_cell (c := L + 6) O6 (r_ld O6 ?_ (hv := hm2)) (.there (.there (.there (.right (.there h2)))))))) (hv := hm2)))
      refine r_subDe (d := pd) O6 (fun s7 O7 => spliced_none ?_) (u := .ref (la e.1)) (by rw [vAt_ents, hent]; rfl) (.there (.there (.there (.right .here))))
      refine r_newTuple O7 fun tp s8 O8 => ⟨⟨by rw [List.length_append, List.length_append, hI1]; rfl, fun v hv => ?_⟩, ?_⟩
      · rcases List.mem_append.mp hv with q | q
        · exact hI2 v q
        · rw [List.mem_singleton] at q; exact ⟨tp, q⟩
      · rw [zE_snoc hI1.symm]
        have O9 := O8.imp (P' := IsKV e.1 (.ref (la e.1))) fun o ho => ⟨t, ho⟩
        exact Own.tailPerm (front := [(C, IsNs m2), (acc, IsL outs), (I, IsKI pd (i + 1) (P.map fun e => (e.1, (.ref (la e.1) : Value))).length ep)]) O9 perm_in'
  · rw [List.length_map, List.length_map, List.take_length] at hI O5
    obtain ⟨hI1, hI2⟩ := hI
    refine ⟨rfl, m2, _, O5, fun s6 O6 => spliced_none ?_⟩
    have hkn : (((P.filter fun e => decide (e.2.1 ≤ c)).map fun e => (e.1, (.ref (la e.1) : Value))).map (·.1)).Nodup := by
      rw [List.map_map]
      exact B.keys.sublist ((List.filter_sublist (p := fun e : Ent => decide (e.2.1 ≤ c))).map _)
    refine r_dictPairs (l := acc) (outs := outs) (pairs := (P.filter fun e => decide (e.2.1 ≤ c)).map fun e => (e.1, (.ref (la e.1) : Value))) O6 hr.hh (by have := List.length_filter_le (fun e : Ent => decide (e.2.1 ≤ c)) P; rw [List.length_map]; omega) hkn (by rw [List.length_map]; exact hI1) .here (fun j k v hj => ?_) fun d3 s7 O7 => ?_
    · rw [List.getElem?_map] at hj
      obtain ⟨e, he, e2⟩ := Option.map_eq_some_iff.mp hj
      injection e2 with e3 e4
      subst e3 e4
      have hlt : j < outs.length := by
        rw [hI1]
        rcases Nat.lt_or_ge j (P.filter fun e => decide (e.2.1 ≤ c)).length with q | q
        · exact q
        · rw [List.getElem?_eq_none q] at he; cases he
      obtain ⟨a, ha⟩ := hI2 _ (List.getElem_mem hlt)
      have hg : outs[j]? = some (.ref a) := by rw [List.getElem?_eq_getElem hlt, ha]
      obtain ⟨q, hq⟩ := pick_zE (la := la) he hg
      exact ⟨a, _, hg, .there (.left hq)⟩
    · have hk2 : ((P.filter fun e => decide (e.2.1 ≤ c)).map (·.1)).Nodup := by
        rw [List.map_map] at hkn; exact hkn
      refine r_neD (d1 := pd2) (d2 := d3) (la1 := la2) (la2 := la) (P := P.filter fun e => decide (e.2.1 ≤ c)) X O7 (by have := hr.hu; show A.units + 1 + 64 < _; omega) (by have := hr.hu; omega) hk2 (.there (.there (.right (.there h6)))) .here (fun e he => ?_) (fun e he => ?_) ?_
      · obtain ⟨q, hq⟩ := h8 e he
        exact ⟨_, .there (.there (.right (.there hq)))⟩
      · obtain ⟨q, hq⟩ := h7 e.1 e.2 (entAt_mem (e := e.2) B.keys (List.mem_filter.mp he).1)
        exact ⟨_, .there (.there (.right (.there hq)))⟩
      · refine wpAny_truthy_bool (wpAny_execs_nil (h s7 ?_))
        exact (Own.right (ps := [(d3, _), (acc, IsL outs)] ++ zE la (P.filter fun e => decide (e.2.1 ≤ c)) outs) O7).imp fun o ho => ho.toD
end
end Mine
end

-- Law16
section
open PySem PySem.W PyProof.Rows PySem.Calls
set_option Elab.async false
set_option maxRecDepth 100000
set_option maxHeartbeats 2000000
set_option linter.unusedVariables false
namespace Mine
noncomputable def lawY (w : World) : {p : Stmt × Stmt × Stmt // (lawB w).1.2.2.2.2.2.2 = [p.1, p.2.1, p.2.2]} := ⟨(_, _, _), rfl⟩
section
variable {prog : Program} {w : World} {A : Around} {E : Value → Shared → Prop} {σ s : Shared} {R r1 r2 r3 r4 r5 r6 r7 r8 r9 r10 r12 r13 r14 r15 : List HP} {mg mb m : Str → Option Value} {L sd pd pd2 ta fa ma ro nw : Addr} {k n j : Nat} {tv tl tn ts tb tg : Tok} {v lv src c goal : Int} {la la2 rt : Int → Addr} {P : List Ent} {pr : List Int} {M : Int → Int → Int} {rowf : Int → List Int} {S : List (Int × Int)} {vo : Option Value}
  {C cp cpd fn g gd od av ax nd : Addr} {nm : Str} {kvs : List (Str × Value)} {outer nodes : List (Int × Value)} {f0 f1 f2 f3 f4 f5 f6 : Int}
/-- goal = found[6] % n -/
theorem law_17 {Q : Flow → Shared → Prop} (hn1 : 1 ≤ n) (O : Own σ ((L, IsNs m) :: R) s) (h1 : Pick (L + 1) (IsC (some (.ref fa))) R r1) (h2 : Pick fa (IsI [f0, f1, f2, f3, f4, f5, f6]) R r2) (h3 : Pick (L + 2) (IsC (some (.int n tn))) R r3)
    (h : ∀ (c : Int) t s', Own σ ((L, IsNs (upd m "goal" (.int c t))) :: R) s' → Q .next s') :
    wpAny (model prog w) A (exec (lawY w).1.1 (lawEnv w L)) Q E s := by
  refine wpAny_Assign_Name (wpAny_BinOp (Subscript_ (r_cell (c := L + 1) O (r_int O fun t2 s2 O2 => ?_) h1.there)))
  refine r_subI O2 (fun t3 s3 O3 => ?_) (by decide) (by decide) (x := f6) rfl h2.there
  refine r_cell (c := L + 2) O3 ?_ h3.there
  refine r_mod O3 (by omega) fun t5 s5 O5 => ?_
  exact r_st O5 (fun s7 O7 => h _ _ s7 O7) (hp := .here)
/-- if predecessor(G, start, target=goal) != told.get(goal, []): return False -/
theorem law_18 {Q : Flow → Shared → Prop} (X : PF (KF w) σ mg mb) (hr : Room A (k + 12)) (hP : bfs rowf none (n + 1 + 1) 0 [(src, 0, [])] [src] = P) (hb : bokBfs rowf (rangeI n) none (n + 1 + 1) 0 [(src, 0, [])] [src])
    (Gc : GC C cp cpd fn nm) (GI : GIn prog w R C g gd od av ax nd kvs outer nodes n rowf) (hsrc : (valueAt nodes src).isSome = true)
    (O : Own σ R s) (h1 : Pick L (IsNs m) R r1) (hG : m "G" = some (.ref g)) (hm : m "goal" = some (.int goal tg)) (h2 : Pick (L + 6) (IsC (some (.ref pd))) R r2) (h5 : Pick (L + 5) (IsC (some (.int src ts))) R r5)
    (h6 : Pick pd (IsD prog w (P.map fun e => (e.1, .ref (la e.1)))) R r6) (h7 : ∀ v e, entAt P v = some e → ∃ r, Pick (la v) (IsI e.2) R r)
    (h : ∀ s', Own σ R s' → Q .next s') :
    wpAny (model prog w) A (exec (lawY w).1.2.1 (lawEnv w L)) Q E s := by
  obtain ⟨_, hnd⟩ := GI.hnd
  refine wpAny_If (wpAny_isTrue_Compare1 (wpAny_Call_Name_kw (r_glob X O ?_ (v := .ref 66))))
  refine callWith_KW X.K (by rfl) (by rfl) (spliced_more (r_ld O (spliced_more (r_cell (c := L + 5) O (spliced_none ?_) h5)) (hp := h1) (hv := hG)))
  refine wpAny_evalAll_cons (wpAny_bind (r_ld O (wpAny_bind (wpAny_standAt (wpAny_pure (wpAny_evalAll_nil ?_)))) (hp := h1) (hv := hm)))
  refine ⟨O.inK X, wpAny_call ?_⟩
  refine p_any (cut := none) (cutv := .none) (tgv := .int goal tg) (rsv := .none) (src := src) (ts := ts) (N := rangeI n) (rowf := rowf) (kk := n + 1 + 1) (n := k) Gc X (hr.less (by omega)) O GI.ga GI.node hnd hsrc GI.ra .none ?_ hb ?_
  · exact fun K => binds_K K rfl rfl rfl rfl rfl
  · intro A' E' L' m' nl sd2 pd2 la2 rest s' O' ht hrs hse hpr
    rw [hP] at O'
    refine p_goal (goal := goal) (tg := tg) X O' ht hrs hpr fun a s1 O1 => ?_
    refine methodCall_KW (r_cell (c := L + 6) O1 ?_ h2.there)
    refine r_methGetD O1 ?_ (d := pd) h6.there
    refine callWith_method1 (spliced_more (r_ld O1 (spliced_more (r_List (spliced_none (r_newI O1 .nil fun e0 s2 O2 => spliced_none ?_)))) (hp := h1.there) (hv := hm)))
    refine r_get2 (d := pd) X O2 (fun s3 O3 => ?_) h6.there.there
    rw [vAt_ents]
    obtain ⟨x, hx, _, hpx⟩ : ∃ x, (Option.map (fun _ => (.ref (la goal) : Value)) (entAt P goal)).getD (.ref e0) = .ref x ∧ ∃ r, Pick x (IsI (((entAt P goal).map (·.2)).getD [])) ((e0, IsI []) :: (a, IsI (((entAt P goal).map (·.2)).getD [])) :: R) r := by
      cases he : entAt P goal with
      | none => exact ⟨e0, rfl, _, .here⟩
      | some e =>
        obtain ⟨q, hq⟩ := h7 goal e he
        exact ⟨la goal, rfl, _, hq.there.there⟩
    rw [hx]
    refine r_neI (l := a) (a := x) O3 (by have := hr.hu; omega) (.there .here) hpx ?_
    refine wpAny_truthy_bool ?_
    rw [decide_eq_true rfl]
    exact wpAny_execs_nil (h s3 O3.tail.tail)
theorem r_get2DI {S : List (Int × Int)} {K : Frag} {d : Addr} {k y : Int} {t u : Tok} {r : List HP} {Q : Value → Shared → Prop} (X : PF K σ mg mb) (O : Own σ R s) (hp : Pick d (IsDI prog w S) R r) (h : ∀ u s', Own σ R s' → Q (.int ((intAt S k).getD y) u) s') :
    wpAny (model prog w) A (call (.builtin "dict.get") [.ref d, .int k t, .int y u]) Q E s := by
  obtain ⟨tk, O1⟩ := O.openDI hp
  refine r_get2 X O1 (fun s' O' => ?_) .here
  have O2 := O'.closeDI.perm hp.perm.symm
  cases hv : intAt S k with
  | none => rw [valueAt_intAt_none tk hv]; rw [hv] at h; exact h _ s' O2
  | some x =>
    obtain ⟨u, hu⟩ := valueAt_intAt tk hv
    rw [hu]; rw [hv] at h; exact h _ s' O2
/-- return predecessor(G, start, target=goal, return_seen=True) == (told.get(goal, []), steps.get(goal, -1)) -/
theorem law_19 {Q : Flow → Shared → Prop} (X : PF (KF w) σ mg mb) (hr : Room A (k + 12)) (hP : bfs rowf none (n + 1 + 1) 0 [(src, 0, [])] [src] = P) (hb : bokBfs rowf (rangeI n) none (n + 1 + 1) 0 [(src, 0, [])] [src])
    (Gc : GC C cp cpd fn nm) (GI : GIn prog w R C g gd od av ax nd kvs outer nodes n rowf) (hsrc : (valueAt nodes src).isSome = true)
    (O : Own σ R s) (h1 : Pick L (IsNs m) R r1) (hG : m "G" = some (.ref g)) (hm : m "goal" = some (.int goal tg)) (h2 : Pick (L + 6) (IsC (some (.ref pd))) R r2) (h3 : Pick (L + 7) (IsC (some (.ref sd))) R r3) (h5 : Pick (L + 5) (IsC (some (.int src ts))) R r5)
    (h4 : Pick sd (IsDI prog w (P.map fun e => (e.1, e.2.1))) R r4)
    (h6 : Pick pd (IsD prog w (P.map fun e => (e.1, .ref (la e.1)))) R r6) (h7 : ∀ v e, entAt P v = some e → ∃ r, Pick (la v) (IsI e.2) R r)
    (h : ∀ s', Own σ [] s' → Q (.ret (.bool true)) s') :
    wpAny (model prog w) A (exec (lawY w).1.2.2 (lawEnv w L)) Q E s := by
  obtain ⟨_, hnd⟩ := GI.hnd
  refine wpAny_Return_some (wpAny_Compare1 (wpAny_Call_Name_kw (r_glob X O ?_ (v := .ref 66))))
  refine callWith_KW X.K (by rfl) (by rfl) (spliced_more (r_ld O (spliced_more (r_cell (c := L + 5) O (spliced_none ?_) h5)) (hp := h1) (hv := hG)))
  refine wpAny_evalAll_cons (wpAny_bind (r_ld O (wpAny_bind (wpAny_standAt (wpAny_pure ?_))) (hp := h1) (hv := hm)))
  refine wpAny_evalAll_cons (wpAny_bind (r_bool (wpAny_bind (wpAny_standAt (wpAny_pure (wpAny_evalAll_nil ?_))))))
  refine ⟨O.inK X, wpAny_call ?_⟩
  refine p_any (cut := none) (cutv := .none) (tgv := .int goal tg) (rsv := .bool true) (src := src) (ts := ts) (N := rangeI n) (rowf := rowf) (kk := n + 1 + 1) (n := k) Gc X (hr.less (by omega)) O GI.ga GI.node hnd hsrc GI.ra .none ?_ hb ?_
  · exact fun K => binds_K K rfl rfl rfl rfl rfl
  · intro A' E' L' m' nl sd2 pd2 la2 rest s' O' ht hrs hse hpr
    rw [hP] at O'
    refine p_goalPair (goal := goal) (tg := tg) X O' ht hrs hse hpr fun a tp tx s1 O1 => ?_
    refine r_Tuple (spliced_more (methodCall_KW (r_cell (c := L + 6) O1 ?_ h2.there.there)))
    refine r_methGetD O1 ?_ (d := pd) h6.there.there
    refine callWith_method1 (spliced_more (r_ld O1 (spliced_more (r_List (spliced_none (r_newI O1 .nil fun e0 s2 O2 => spliced_none ?_)))) (hp := h1.there.there) (hv := hm)))
    refine r_get2 (d := pd) X O2 (fun s3 O3 => ?_) h6.there.there.there
    rw [vAt_ents]
    obtain ⟨x, hx, _, hpx⟩ : ∃ x, (Option.map (fun _ => (.ref (la goal) : Value)) (entAt P goal)).getD (.ref e0) = .ref x ∧ ∃ r, Pick x (IsI (((entAt P goal).map (·.2)).getD [])) ((e0, IsI []) :: (tp, IsT [.ref a, .int (((entAt P goal).map (·.1)).getD (-1)) tx]) :: (a, IsI (((entAt P goal).map (·.2)).getD [])) :: R) r := by
      cases he : entAt P goal with
      | none => exact ⟨e0, rfl, _, .here⟩
      | some e =>
        obtain ⟨q, hq⟩ := h7 goal e he
        exact ⟨la goal, rfl, _, hq.there.there.there⟩
    rw [hx]
    refine spliced_more (methodCall_KW (r_cell (c := L + 7) O3 ?_ h3.there.there.there))
    refine r_methGetDI (d := sd) O3 ?_ h4.there.there.there
    refine callWith_method1 (spliced_more (r_ld O3 (spliced_more (wpAny_UnaryOp (r_int O3 fun t4 s4 O4 => neg_int (spliced_none ?_)))) (hp := h1.there.there.there) (hv := hm)))
    have O5 := O4.toks (t := s4.toks + 1)
    refine r_get2DI (d := sd) X O5 h4.there.there.there fun u6 s6 O6 => spliced_none ?_
    rw [intAt_ents]
    refine r_newTuple O6 fun tq s7 O7 => ?_
    exact r_eqT2 O7 (by have := hr.hu; show A.units + 1 + 1 + 64 < _; omega) (by have := hr.hu; omega) (.there (.there .here)) .here (.there (.there (.there .here))) hpx.there (h s7 O7.nil)
end
end Mine
end

-- Law17
section
open PySem PySem.W PyProof.Rows PySem.Calls
set_option Elab.async false
set_option maxRecDepth 100000
set_option maxHeartbeats 2000000
set_option linter.unusedVariables false
namespace Mine
section
variable {prog : Program} {w : World} {A : Around} {E : Value → Shared → Prop} {σ s : Shared} {F T R ps r1 r2 r3 r4 r5 r6 r7 r8 r9 r10 r12 r13 r14 r15 : List HP} {mg mb m : Str → Option Value} {L sd pd pd2 ta fa ma ro nw : Addr} {k n j : Nat} {tv tl tn ts tb tg : Tok} {v lv src c goal : Int} {la la2 rt : Int → Addr} {P : List Ent} {pr : List Int} {M : Int → Int → Int} {rowf : Int → List Int} {S : List (Int × Int)} {vo : Option Value}
  {C cp cpd fn g gd od av ax nd : Addr} {nm : Str} {kvs : List (Str × Value)} {outer nodes : List (Int × Value)} {f0 f1 f2 f3 f4 f5 f6 : Int}
theorem RowAt.app {xs : List Int} (h : RowAt prog w T outer v xs) : RowAt prog w (F ++ T) outer v xs := by
  obtain ⟨d, row, ep, _, h1, h2, h3⟩ := h
  exact ⟨d, row, ep, _, h1, .right h2, h3⟩
theorem valueAt_left {x : Str} {a : Value} {kvs more : List (Str × Value)} (h : valueAt kvs x = some a) : valueAt (kvs ++ more) x = some a := by
  unfold valueAt at h ⊢
  obtain ⟨p, hp, rfl⟩ := Option.map_eq_some_iff.mp h
  rw [List.find?_append, hp]
  rfl
theorem valueAt_last {x : Str} {a : Value} {kvs : List (Str × Value)} (h : valueAt kvs x = none) : valueAt (kvs ++ [(x, a)]) x = some a := by
  unfold valueAt at h ⊢
  rw [Option.map_eq_none_iff] at h
  rw [List.find?_append, h]
  simp
/-- what stands from the while to the end -/
abbrev lawR (prog : Program) (w : World) (M : Int → Int → Int) (rt : Int → Addr) (n : Nat) (tn ts : Tok) (src : Int) (L sd pd ta fa : Addr) (fs : List Int) (C g gd nd od av ax : Addr) (kvs : List (Str × Value)) (N : List Int) (f ra : Int → Addr) (rk : Int → List (Int × Value)) (ep : Int → Nat) (la : Int → Addr) (P : List Ent) (ps : List HP) : List HP :=
  (L + 7, IsC (some (.ref sd))) :: (L + 6, IsC (some (.ref pd))) :: (L + 5, IsC (some (.int src ts))) :: (L + 3, IsC (some (.ref ta))) :: (L + 2, IsC (some (.int n tn))) :: (L + 1, IsC (some (.ref fa))) :: (sd, IsDI prog w (P.map fun e => (e.1, e.2.1))) :: (nd, IsD prog w (N.map fun u => (u, .ref (f u)))) ::
    (bfam la P ++ ((av, IsO (plainObj 142 (some ax) #[some (.ref od)])) :: (ax, IsS prog w []) :: (g, IsO (plainObj C (some gd) #[])) :: (gd, IsS prog w (kvs ++ [(("adj" : Str), (.ref av : Value))])) :: (od, IsD prog w (N.map fun u => (u, .ref (ra u)))) ::
      (fam (fun u => IsDe prog w (rk u) (ep u)) ra N ++ ((ta, IsL (tabL rt n)) :: (rowsHP M rt n ++ ((fa, IsI fs) :: ps))))))
section
variable {N : List Int} {f ra : Int → Addr} {rk : Int → List (Int × Value)} {ep : Int → Nat} {fs : List Int}
theorem lawR_in (GB' : GB C cp cpd fn nm kvs od nd) (hN : ∀ x, x ∈ N ↔ x ∈ rangeI n) :
    GIn prog w (lawR prog w M rt n tn ts src L sd pd ta fa fs C g gd nd od av ax kvs N f ra rk ep la P ps) C g gd od av ax nd (kvs ++ [(("adj" : Str), (.ref av : Value))]) (N.map fun u => (u, .ref (ra u))) (N.map fun u => (u, .ref (f u))) n (fun u => (rk u).map (·.1)) where
  ga := ⟨⟨_, .there (.there (.there (.there (.there (.there (.there (.there (.right (.there (.there .here))))))))))⟩, ⟨_, .there (.there (.there (.there (.there (.there (.there (.there (.right (.there (.there (.there .here)))))))))))⟩, ⟨_, .there (.there (.there (.there (.there (.there (.there (.there (.right .here))))))))⟩, ⟨_, .there (.there (.there (.there (.there (.there (.there (.there (.right (.there .here)))))))))⟩,
    ⟨_, .there (.there (.there (.there (.there (.there (.there (.there (.right (.there (.there (.there (.there .here))))))))))))⟩, valueAt_last GB'.adj⟩
  node := valueAt_left GB'.node
  hnd := ⟨_, .there (.there (.there (.there (.there (.there (.there .here))))))⟩
  ra := fun v hv => (RowAt.app (F := bfam la P) (rowAt_fam (prog := prog) (w := w) (rk := rk) (ra := ra) (ep := ep) (T := (ta, IsL (tabL rt n)) :: (rowsHP M rt n ++ ((fa, IsI fs) :: ps))) hN v hv).cons.cons.cons.cons.cons).cons.cons.cons.cons.cons.cons.cons.cons
theorem lawR_ta : ∃ r, Pick ta (IsL (tabL rt n)) (lawR prog w M rt n tn ts src L sd pd ta fa fs C g gd nd od av ax kvs N f ra rk ep la P ps) r :=
  ⟨_, .there (.there (.there (.there (.there (.there (.there (.there (.right (.there (.there (.there (.there (.there (.right .here))))))))))))))⟩
theorem lawR_rows : ∀ u ∈ rangeI n, ∃ r, Pick (rt u) (IsI ((rangeI n).map (M u))) (lawR prog w M rt n tn ts src L sd pd ta fa fs C g gd nd od av ax kvs N f ra rk ep la P ps) r := fun u hu => by
  obtain ⟨q, hq⟩ := pick_famR (P := fun u => IsI ((rangeI n).map (M u))) (ra := rt) hu
  exact ⟨_, .there (.there (.there (.there (.there (.there (.there (.there (.right (.there (.there (.there (.there (.there (.right (.there (.left hq))))))))))))))))⟩
theorem lawR_fa : ∃ r, Pick fa (IsI fs) (lawR prog w M rt n tn ts src L sd pd ta fa fs C g gd nd od av ax kvs N f ra rk ep la P ps) r :=
  ⟨_, .there (.there (.there (.there (.there (.there (.there (.there (.right (.there (.there (.there (.there (.there (.right (.there (.right .here))))))))))))))))⟩
theorem lawR_la : ∀ v e, entAt P v = some e → ∃ r, Pick (la v) (IsI e.2) (lawR prog w M rt n tn ts src L sd pd ta fa fs C g gd nd od av ax kvs N f ra rk ep la P ps) r := fun v e he => by
  obtain ⟨q, hq⟩ := pick_ent (la := la) he
  exact ⟨_, .there (.there (.there (.there (.there (.there (.there (.there (.left hq))))))))⟩
end
end
end Mine
end

-- Law18
section
open PySem PySem.W PyProof.Rows PySem.Calls
set_option Elab.async false
set_option maxRecDepth 100000
set_option maxHeartbeats 2000000
set_option linter.unusedVariables false
namespace Mine
section
variable {prog : Program} {w : World} {A : Around} {E : Value → Shared → Prop} {σ s : Shared} {F T R ps : List HP} {mg mb m : Str → Option Value} {L sd pd ta fa ma ro : Addr} {k n : Nat} {tl tn ts : Tok} {src : Int} {la rt : Int → Addr} {P : List Ent} {M : Int → Int → Int}
  {C cp cpd fn g gd od av ax nd : Addr} {nm : Str} {kvs : List (Str × Value)} {f0 f1 f2 f3 f4 f5 f6 : Int} {N : List Int} {f ra : Int → Addr} {rk : Int → List (Int × Value)} {ep : Int → Nat}
theorem law_end {Q : Flow → Shared → Prop} (X : PF (KF w) σ mg mb) (hr : Room A (k + 12)) (hn1 : 1 ≤ n) (hn6 : n ≤ 6) (B : BDone (rangeI n) M (fun u => (rk u).map (·.1)) src P) (hP : bfs (fun u => (rk u).map (·.1)) none (n + 1 + 1) 0 [(src, 0, [])] [src] = P)
    (hb : ∀ cut, bokBfs (fun u => (rk u).map (·.1)) (rangeI n) cut (n + 1 + 1) 0 [(src, 0, [])] [src]) (hcut : ∀ c : Int, 0 < c → bfs (fun u => (rk u).map (·.1)) (some c) (n + 1 + 1) 0 [(src, 0, [])] [src] = P.filter fun e => e.2.1 ≤ c)
    (GB' : GB C cp cpd fn nm kvs od nd) (hN : ∀ x, x ∈ N ↔ x ∈ rangeI n) (hsrc : src ∈ rangeI n) (hG : m "G" = some (.ref g))
    (O : Own σ ((L, IsNs m) :: (L + 4, IsC none) :: (ma, IsDI prog w [(src, 1)]) :: (L + 10, IsC (some (.int 0 tl))) :: (L + 8, IsC (some (.ref ro))) :: (ro, IsI ((rangeI n).map (Rw (rangeI n) M src 0))) :: (L + 11, IsC none) :: (L + 9, IsC (some (.ref ma))) :: (pd, IsD prog w (P.map fun e => (e.1, .ref (la e.1)))) ::
      lawR prog w M rt n tn ts src L sd pd ta fa [f0, f1, f2, f3, f4, f5, f6] C g gd nd od av ax kvs N f ra rk ep la P ps) s)
    (h : ∀ s', Own σ [] s' → Q (.ret (.bool true)) s') : wpAny (model prog w) A (execs ((lawB w).1.2.2.2.2.1 :: ((lawB w).1.2.2.2.2.2.1 ++ (lawB w).1.2.2.2.2.2.2)) (lawEnv w L)) Q E s := by
  have GI : GIn prog w (lawR prog w M rt n tn ts src L sd pd ta fa [f0, f1, f2, f3, f4, f5, f6] C g gd nd od av ax kvs N f ra rk ep la P ps) C g gd od av ax nd (kvs ++ [(("adj" : Str), (.ref av : Value))]) (N.map fun u => (u, .ref (ra u))) (N.map fun u => (u, .ref (f u))) n (fun u => (rk u).map (·.1)) := lawR_in GB' hN
  obtain ⟨_, hta⟩ := lawR_ta (prog := prog) (w := w) (M := M) (rt := rt) (n := n) (tn := tn) (ts := ts) (src := src) (L := L) (sd := sd) (pd := pd) (ta := ta) (fa := fa) (fs := [f0, f1, f2, f3, f4, f5, f6]) (C := C) (g := g) (gd := gd) (nd := nd) (od := od) (av := av) (ax := ax) (kvs := kvs) (N := N) (f := f) (ra := ra) (rk := rk) (ep := ep) (la := la) (P := P) (ps := ps)
  obtain ⟨_, hfa⟩ := lawR_fa (prog := prog) (w := w) (M := M) (rt := rt) (n := n) (tn := tn) (ts := ts) (src := src) (L := L) (sd := sd) (pd := pd) (ta := ta) (fa := fa) (fs := [f0, f1, f2, f3, f4, f5, f6]) (C := C) (g := g) (gd := gd) (nd := nd) (od := od) (av := av) (ax := ax) (kvs := kvs) (N := N) (f := f) (ra := ra) (rk := rk) (ep := ep) (la := la) (P := P) (ps := ps)
  have hrows := lawR_rows (prog := prog) (w := w) (M := M) (rt := rt) (n := n) (tn := tn) (ts := ts) (src := src) (L := L) (sd := sd) (pd := pd) (ta := ta) (fa := fa) (fs := [f0, f1, f2, f3, f4, f5, f6]) (C := C) (g := g) (gd := gd) (nd := nd) (od := od) (av := av) (ax := ax) (kvs := kvs) (N := N) (f := f) (ra := ra) (rk := rk) (ep := ep) (la := la) (P := P) (ps := ps)
  have hla := lawR_la (prog := prog) (w := w) (M := M) (rt := rt) (n := n) (tn := tn) (ts := ts) (src := src) (L := L) (sd := sd) (pd := pd) (ta := ta) (fa := fa) (fs := [f0, f1, f2, f3, f4, f5, f6]) (C := C) (g := g) (gd := gd) (nd := nd) (od := od) (av := av) (ax := ax) (kvs := kvs) (N := N) (f := f) (ra := ra) (rk := rk) (ep := ep) (la := la) (P := P) (ps := ps)
  have hsd : Pick sd (IsDI prog w (P.map fun e => (e.1, e.2.1))) (lawR prog w M rt n tn ts src L sd pd ta fa [f0, f1, f2, f3, f4, f5, f6] C g gd nd od av ax kvs N f ra rk ep la P ps) _ := .there (.there (.there (.there (.there (.there .here)))))
  have c7 : Pick (L + 7) (IsC (some (.ref sd))) (lawR prog w M rt n tn ts src L sd pd ta fa [f0, f1, f2, f3, f4, f5, f6] C g gd nd od av ax kvs N f ra rk ep la P ps) _ := .here
  have c6 : Pick (L + 6) (IsC (some (.ref pd))) (lawR prog w M rt n tn ts src L sd pd ta fa [f0, f1, f2, f3, f4, f5, f6] C g gd nd od av ax kvs N f ra rk ep la P ps) _ := .there .here
  have c5 : Pick (L + 5) (IsC (some (.int src ts))) (lawR prog w M rt n tn ts src L sd pd ta fa [f0, f1, f2, f3, f4, f5, f6] C g gd nd od av ax kvs N f ra rk ep la P ps) _ := .there (.there .here)
  have c3 : Pick (L + 3) (IsC (some (.ref ta))) (lawR prog w M rt n tn ts src L sd pd ta fa [f0, f1, f2, f3, f4, f5, f6] C g gd nd od av ax kvs N f ra rk ep la P ps) _ := .there (.there (.there .here))
  have c2 : Pick (L + 2) (IsC (some (.int n tn))) (lawR prog w M rt n tn ts src L sd pd ta fa [f0, f1, f2, f3, f4, f5, f6] C g gd nd od av ax kvs N f ra rk ep la P ps) _ := .there (.there (.there (.there .here)))
  have c1 : Pick (L + 1) (IsC (some (.ref fa))) (lawR prog w M rt n tn ts src L sd pd ta fa [f0, f1, f2, f3, f4, f5, f6] C g gd nd od av ax kvs N f ra rk ep la P ps) _ := .there (.there (.there (.there (.there .here))))
  have hsn : (valueAt (N.map fun u => (u, (.ref (f u) : Value))) src).isSome = true := by
    rw [vAt_isSome (f := fun u => .ref (f u)), decide_eq_true ((hN src).mpr hsrc)]
  generalize lawR prog w M rt n tn ts src L sd pd ta fa [f0, f1, f2, f3, f4, f5, f6] C g gd nd od av ax kvs N f ra rk ep la P ps = R at *
  refine wpAny_execs_cons (law_while (k := k + 4) (rt := rt) (la := la) (ta := ta) X hr hn6 B O c6.there.there.there c7.there.there.there hsd.there.there.there (.there (.there .here)) (fun v e he => ⟨_, (hla v e he).choose_spec.there.there.there⟩) c3.there.there.there c2.there.there.there hta.there.there.there (fun u hu => ⟨_, (hrows u hu).choose_spec.there.there.there⟩) (.there .here) fun m1 vo S s1 hm W O1 => ?_)
  have hG1 : m1 "G" = some (.ref g) := (hm "G" (by decide)).trans hG
  refine seg_any ?_
  rw [(lawX w).2]
  refine wpAny_execs_cons (law_13 (k := k) (la := la) (ma := ma) (S := S) X hr hn6 B hP (hb none) W GB'.gc GI.cons.cons.cons.cons.cons.cons hsn O1 .here hG1 c6.there.there.there.there.there.there (.there (.there (.there (.there .here)))) (.there (.there .here)) c5.there.there.there.there.there.there (.there (.there (.there (.there (.there .here))))) (fun v e he => ⟨_, (hla v e he).choose_spec.there.there.there.there.there.there⟩) fun s2 O2 => ?_)
  have O3 := O2.to (qs := (L + 11, IsC none) :: (L, IsNs m1) :: (pd, IsD prog w (P.map fun e => (e.1, .ref (la e.1)))) :: R)
  refine wpAny_execs_cons (law_14 (fa := fa) O3 c1.there.there hfa.there.there fun c tb s4 hc O4 => ?_)
  have O5 := O4.to (qs := (L, IsNs m1) :: (L + 11, IsC (some (.int c tb))) :: (pd, IsD prog w (P.map fun e => (e.1, .ref (la e.1)))) :: R)
  refine wpAny_execs_cons (law_15 (k := k) X hr (hb (some c)) GB'.gc GI.cons.cons hsn O5 hG1 c5.there.there .here fun pd2 la2 s6 O6 => ?_)
  rw [hcut c hc] at O6
  have O7 := O6.front (a := pd) (P := IsD prog w (P.map fun e => (e.1, .ref (la e.1)))) (.there (.there (.right (.there .here))))
  refine wpAny_execs_cons (law_16 (k := k) (la := la) (la2 := la2) (pd2 := pd2) (sd := sd) (c := c) X hr hn6 B O7 .here (upd_same _ _ _) (.there (.there (.right c6.there))) (.there (.there (.right c7.there))) (.there (.there (.right .here))) (.there (.there (.right hsd.there))) (.there .here) (fun v e he => ⟨_, .there (.there (.right (hla v e he).choose_spec.there))⟩) (fun e he => ?_) fun s8 O8 => ?_)
  · have hk2 : ((P.filter fun e => decide (e.2.1 ≤ c)).map (·.1)).Nodup := B.keys.sublist ((List.filter_sublist (p := fun e : Ent => decide (e.2.1 ≤ c))).map _)
    obtain ⟨q, hq⟩ := pick_ent (la := la2) (entAt_mem (P := P.filter fun e => decide (e.2.1 ≤ c)) (e := e.2) hk2 he)
    exact ⟨_, .there (.there (.left hq))⟩
  · refine wpAny_execs_nil ⟨rfl, ?_⟩
    rw [(lawY w).2]
    have O9 := Own.mid2 (front := (pd2, _) :: bfam la2 (P.filter fun e => e.2.1 ≤ c)) O8
    have O10 := O9.to (qs := (L, IsNs (upd m1 "near" (.ref pd2))) :: (pd, IsD prog w (P.map fun e => (e.1, .ref (la e.1)))) :: R)
    refine wpAny_execs_cons (law_17 (fa := fa) hn1 O10 c1.there hfa.there c2.there fun goal tg s11 O11 => ?_)
    have hG2 : upd (upd m1 "near" (.ref pd2)) "goal" (.int goal tg) "G" = some (.ref g) := upd_other (by decide) (upd_other (by decide) hG1)
    refine wpAny_execs_cons (law_18 (k := k) (la := la) X hr hP (hb none) GB'.gc GI.cons.cons hsn O11 .here hG2 (upd_same _ _ _) c6.there.there c5.there.there (.there .here) (fun v e he => ⟨_, (hla v e he).choose_spec.there.there⟩) fun s12 O12 => ?_)
    exact wpAny_execs_cons (law_19 (k := k) (la := la) (sd := sd) X hr hP (hb none) GB'.gc GI.cons.cons hsn O12 .here hG2 (upd_same _ _ _) c6.there.there c7.there.there c5.there.there hsd.there.there (.there .here) (fun v e he => ⟨_, (hla v e he).choose_spec.there.there⟩) h)
end
end Mine
end

-- Law19
section
open PySem PySem.W PyProof.Rows PySem.Calls
set_option Elab.async false
set_option maxRecDepth 100000
set_option maxHeartbeats 2000000
set_option linter.unusedVariables false
namespace Mine
theorem law_cells : (["found", "n", "table", "v", "start", "told", "steps", "row", "many", "level", "bound"] : List Str).Nodup := by decide +kernel
section
variable {prog : Program} {w : World} {A : Around} {σ s : Shared} {mg mb : Str → Option Value} {k : Nat} {sa : Addr} {vs : List Value} {xs : List Int} {R : Result → Shared → Prop}
/-- the law's own call -/
theorem law_all (X : PF (KF w) σ mg mb) (hr : Room A (k + 13)) (O : Own σ [] s) (hs : σ.heap.IsList sa vs.toArray) (hi : IntsAre vs xs) (hz : vs.length ≤ 1000)
    (h : ∀ s', Own σ [] s' → R (.ok (.ret (.bool true))) s') : codeOk (model prog w) A (.call (.ref 839) ⟨[.ref sa], []⟩) R s := by
  refine cok_defC (binds := [("script", .ref sa)]) X O hr (lawF w).2 (lawB w).2 rfl (fun L x hx => ?_) (fun L s1 E' O1 hr1 => ?_) (hnd := law_cells)
  · rw [List.mem_singleton] at hx
    subst hx
    exact .inl rfl
  generalize hm0 : bindL (callEnvC (lawF w).1.2.2.1 L 839).kindOf [("script", (.ref sa : Value))] (fun _ => none) = m0 at O1
  have hsc : m0 "script" = some (.ref sa) := by rw [← hm0]; rfl
  have O2 : Own σ ((L, IsNs m0) :: (lawC L none none none none none none none none none none none ++ [])) s1 := O1
  refine seg_ok (ok_any (law_1 (k := k + 8) X hr1 O2 hsc hs hi hz fun fa fs ta rt n tn ow M m1 s3 hf hn1 hn6 hM1 hM2 how O3 => ⟨rfl, ?_⟩))
  obtain ⟨f0, f1, f2, f3, f4, f5, f6, rfl⟩ : ∃ f0 f1 f2 f3 f4 f5 f6, fs = [f0, f1, f2, f3, f4, f5, f6] := by
    match fs, hf with
    | [a, b, c, d, e, f, g], _ => exact ⟨_, _, _, _, _, _, _, rfl⟩
  refine seg_ok (ok_any (law_2 (k := k + 7) X hr1 hn1 hn6 hM2 how O3 fun C cp cpd fn nm kvs g gd nd od ra rk N ts m2 s4 GB' hNd hN hrk hG O4 => ⟨rfl, ?_⟩))
  have hsrc : (f4.fmod n) ∈ rangeI n := mem_rangeI.mpr ⟨Int.fmod_nonneg_of_pos _ (by omega), Int.fmod_lt_of_pos _ (by omega)⟩
  refine ok_execs_cons (law_7 (k := k) X hr1 hn1 hn6 hM1 GB' hNd hN hrk hG hsrc O4 fun av ax ep la sd pd s5 hb B hcut O5 => ?_)
  generalize hP : bfs (fun u => (rk u).map (·.1)) none (n + 1 + 1) 0 [(f4.fmod n, 0, [])] [f4.fmod n] = P at B O5 hcut
  refine ok_any (seg_any (law_8 (k := k) X hr1 hn1 hn6 B O5 fun ro ma tl s6 O6 => ⟨rfl, ?_⟩))
  obtain ⟨f, O7⟩ := O6.openDK (d := nd) (by repeat (first | exact Pick.here | apply Pick.there | apply Pick.right))
  refine law_end (k := k) (la := la) (f := f) (tn := tn) (ts := ts) (tl := tl) (ro := ro) (ma := ma) (ps := []) (ep := ep) (sd := sd) (pd := pd) (ta := ta) (fa := fa) (gd := gd) (av := av) (ax := ax) (rt := rt) (ra := ra) (f0 := f0) (f1 := f1) (f2 := f2) (f3 := f3) (f4 := f4) (f5 := f5) (f6 := f6) X hr1 hn1 hn6 B hP hb hcut GB' hN hsrc hG ?_ fun s8 O8 => h s8 O8
  exact O7.to
end
end Mine
end

-- EndA
section
open PySem PySem.W PyProof.Rows PySem.Calls
set_option Elab.async false
set_option maxRecDepth 100000
set_option maxHeartbeats 2000000
set_option linter.unusedVariables false
namespace Mine
theorem heap_top : ∀ (k : Nat) (h : Heap), h.objs.size = k → (∃ b o, h.get? b = some o) → ∃ h' : Heap, (∀ b, h'.get? b = h.get? b) ∧ ∃ a o, h'.get? a = some o ∧ h'.objs.size = a + 1
  | 0, h, e, ⟨b, o, ho⟩ => absurd (Heap.lt_size ho) (by rw [e]; exact Nat.not_lt_zero _)
  | k + 1, h, e, ⟨b, o, ho⟩ => by
    cases hk : h.get? k with
    | some o => exact ⟨h, fun _ => rfl, k, o, hk, e⟩
    | none =>
      have hg : ∀ b, Heap.get? { h with objs := h.objs.pop } b = h.get? b := fun b => by
        rcases Nat.lt_trichotomy b k with q | q | q
        · unfold Heap.get?
          have : h.objs.pop[b]? = h.objs[b]? := by rw [Array.getElem?_pop, if_pos (by omega)]
          simp only [this]
        · subst q
          rw [hk]
          exact Heap.get?_none_of_le (by simp; omega)
        · rw [Heap.get?_none_of_le (h := h) (by omega)]
          exact Heap.get?_none_of_le (by simp; omega)
      obtain ⟨h', q1, q2⟩ := heap_top k { h with objs := h.objs.pop } (by simp; omega) ⟨b, o, (hg b).trans ho⟩
      exact ⟨h', fun b => (q1 b).trans (hg b), q2⟩
theorem room_caller : Room callerA 13 := ⟨by decide +kernel, by decide +kernel, rfl⟩
section
variable {w : World} {s : Shared} {mg mb : Str → Option Value}
/-- what the top has left, and an empty ledger over it -/
theorem top_pf {p : Program} {loose : List Str} {mean : ExcName → Option Value} (KX : (KF w).In s.heap) (T : Top p loose mean mg mb s.heap) (thr : ∃ mc, s.heap.Ns cStatics mc ∧ mc "_thread.count" = none) : ∃ σ : Shared, PF (KF w) σ mg mb ∧ Own σ [] s ∧ ∀ b, σ.heap.get? b = s.heap.get? b := by
  obtain ⟨o, ho⟩ : ∃ o, s.heap.get? 839 = some o := ⟨_, KX _ _ (by rfl)⟩
  obtain ⟨h', hg, a, o', ha, hs⟩ := heap_top _ s.heap rfl ⟨839, o, ho⟩
  have hk : ∀ b o, s.heap.get? b = some o → h'.get? b = some o := fun b o e => (hg b).trans e
  refine ⟨{ s with heap := h' }, ⟨KX.keeps hk, T.g.keeps hk, T.b.keeps hk, T.nolimit.keeps hk, T.builtins, ?_, ?_⟩, ⟨fun b o e => (hg b).symm.trans e, (fun p hp => nomatch hp), (fun p hp => nomatch hp), ⟨a, o', ha, hs⟩, List.nodup_nil, rfl, rfl, rfl⟩, hg⟩
  · have := Heap.lt_size (hk _ _ ho)
    exact Nat.lt_trans (by decide) this
  · obtain ⟨mc, h1, h2⟩ := thr
    exact ⟨mc, h1.keeps hk, h2⟩
end
end Mine
end

-- EndB
section
open PySem PySem.W PyProof.Rows PySem.Calls
set_option Elab.async false
set_option maxRecDepth 100000
set_option maxHeartbeats 2000000
set_option linter.unusedVariables false
namespace Mine
theorem holds_end : PySem.Challenge.rw_aw6023_01.Holds := by
  refine holds_head ?_
  intro d kwd hdk w s₀ s₁ mg mb G Y fa o pm cd doc dV kV ho hfd hcd hD hmg hg hthr args vals as hpre hlay hrd hwl hlo
  have KX := kIn_of Y
  rw [defOf_name hdk] at hmg
  have T := G.T
  have thr := hthr (by rfl)
  obtain ⟨σ, X, O, hget⟩ := top_pf KX T thr
  have hfa : mg "law" = some (.ref 839) := mg_of KX T.g (by rfl)
  have hfe : fa = 839 := by
    have := hmg.symm.trans hfa
    injection this with this
    injection this
  subst hfe
  wrow_args hpre hlay hrd hwl hlo
  rename Heap.IsList _ _ _ => hl
  rename IntsAre _ _ => hi
  rename (¬ _ < _) => hlen
  rename List Int => xs
  clear hfd hD hcd Y G hdk
  have good : ∀ s' : Shared, Own σ [] s' → GoodWG PySem.Challenge.rw_aw6023_01.row.claim (classAt s₀.heap) (ExcName.means s₀.heap) [ofPy (PyData.list (List.map PyData.int xs))] s₁ (.ok (.ret (.bool true))) s' := fun s' O' =>
    GoodW.toG ⟨.inl ⟨.bool true, .bool true, [], rfl, fun _ => rfl, .bool true, postW_of (X := true) rfl (w_eq_bool (a := .res) (b := .lit (.bool true)) (k := true) (l := true) (by simp [WTm.value]) (by simp [WTm.value])) rfl, fun _ => ⟨.nil, fun _ h => nomatch h⟩⟩, fun b o e => O'.keep b o ((hget b).trans e), O'.os.trans O.os.symm, (O'.gens.trans O.gens.symm).trans hg⟩
  refine ⟨good s₁ O, ok_call ?_⟩
  refine law_all (k := 0) X room_caller O ?_ hi ?_ fun s' O' => good s' O'
  · obtain ⟨o, ho, h⟩ := hl
    exact ⟨o, (hget _).trans ho, h⟩
  · rw [ints_len hi]
    omega
end Mine
end

theorem PySem.Challenge.cw_aw6023_01_holds : PySem.Challenge.rw_aw6023_01.Holds :=
  Mine.holds_end
