import PyProof.Rows.All
import Wide.All
import OpenK.AllK
import Wide.FinOn
import PySem.Challenge.RW_ll0027_01
set_option Elab.async false
section
open PySem PySem.W PySem.Calls PyProof.Rows
open Sem (wp)
set_option Elab.async false
namespace Mine

/-- the built-ins that hold a bytearray while they stand on the stack -/
noncomputable def dirtyIds : List String :=
  ["bytearray.__contains__", "bytearray.__mod__", "bytearray.__rmod__", "_struct.pack_into.held", "bytearray.find.held"] ++ Builtin.Bytes.decodersThatHold
noncomputable def cleanC : Code → Bool
  | .builtin id _ => !dirtyIds.contains id
  | _ => true
noncomputable def CleanB (l : List (Code × Pos)) : Prop := ∀ x ∈ l, cleanC x.1 = true
theorem CleanB.cons {c : Code} {p : Pos} {l : List (Code × Pos)} (h : cleanC c = true) (k : CleanB l) : CleanB ((c, p) :: l) := fun x hx => by
  rcases List.mem_cons.mp hx with rfl | hx
  · exact h
  · exact k x hx
theorem CleanB.nil : CleanB [] := fun _ hx => nomatch hx

noncomputable def wpG {α : Type} (M : Model) (A : Around) (t : Sem α) (Q : α → Shared → Prop) (E : Value → Shared → Prop) (s : Shared) : Prop :=
  ∀ Γ p, Γ.In A → cleanC Γ.code = true → CleanB Γ.below → wp M Γ t (fun a _ s' => Q a s') (fun e _ s' => E e s') p s
noncomputable def codeG (M : Model) (A : Around) (c : Code) (R : Result → Shared → Prop) (s : Shared) : Prop :=
  ∀ Γ p, Γ.code = c → Γ.Below A → CleanB Γ.below → wpCode M Γ R p s

section
variable {α β : Type} {M : Model} {A : Around} {E : Value → Shared → Prop} {s : Shared}

theorem wpG_of {t : Sem α} {Q : α → Shared → Prop} (h : wpAny M A t Q E s) : wpG M A t Q E s := fun Γ p hΓ _ _ => h Γ p hΓ
theorem codeG_of {c : Code} {R : Result → Shared → Prop} (h : codeAny M A c R s) : codeG M A c R s := fun Γ p hc hΓ _ => h Γ p hc hΓ
theorem wpG_mono {t : Sem α} {Q Q' : α → Shared → Prop} {E' : Value → Shared → Prop} (h : wpG M A t Q E s)
    (hQ : ∀ a s, Q a s → Q' a s) (hE : ∀ e s, E e s → E' e s) : wpG M A t Q' E' s :=
  fun Γ p hΓ hc hb => Sem.wp_mono M Γ t (fun a _ s => hQ a s) (fun e _ s => hE e s) p s (h Γ p hΓ hc hb)
theorem wpG_pure {a : α} {Q : α → Shared → Prop} (h : Q a s) : wpG M A (pure a) Q E s := fun _ _ _ _ _ => h
theorem wpG_bind {m : Sem α} {f : α → Sem β} {Q : β → Shared → Prop} (h : wpG M A m (fun a s' => wpG M A (f a) Q E s') E s) :
    wpG M A (m >>= f) Q E s := fun Γ p hΓ hc hb => by
  rw [Sem.wp_bind']
  exact Sem.wp_mono M Γ m (fun a p' s' h' => h' Γ p' hΓ hc hb) (fun _ _ _ h' => h') p s (h Γ p hΓ hc hb)
/-- a first part of the kit's own logic, the rest of mine -/
theorem wpG_bindA {m : Sem α} {f : α → Sem β} {Q : β → Shared → Prop} (h : wpAny M A m (fun a s' => wpG M A (f a) Q E s') E s) :
    wpG M A (m >>= f) Q E s := wpG_bind (wpG_of h)
theorem wpG_onRaise {m : Sem α} {k : Value → Sem Unit} {Q : α → Shared → Prop}
    (h : wpG M A m Q (fun e s' => wpG M A (k e) (fun _ s'' => E e s'') E s') s) : wpG M A (m.onRaise k) Q E s := fun Γ p hΓ hc hb => by
  rw [Sem.wp_onRaise]
  exact Sem.wp_mono M Γ m (fun _ _ _ h' => h') (fun e p' s' h' => h' Γ p' hΓ hc hb) p s (h Γ p hΓ hc hb)
theorem wpG_attempt {m : Sem α} {Q : Except Value α → Shared → Prop} (h : wpG M A m (fun a => Q (.ok a)) (fun e => Q (.error e)) s) :
    wpG M A m.attempt Q E s := fun Γ p hΓ hc hb => by rw [Sem.wp_attempt]; exact h Γ p hΓ hc hb
theorem wpG_holding {vs : List Value} {m : Sem α} {Q : α → Shared → Prop} (h : wpG M A m Q E s) : wpG M A (holding vs m) Q E s :=
  fun Γ p hΓ hc hb => by rw [Sem.wp_holding]; exact h Γ p hΓ hc hb
theorem wpG_keep {vs : List Value} {m : Sem α} {Q : α → Shared → Prop} (h : wpG M A m Q E s) : wpG M A (m.keep vs) Q E s :=
  fun Γ p hΓ hc hb => by rw [Sem.wp_keep]; exact h Γ p hΓ hc hb
theorem wpG_standAt {pos : Pos} {Q : Unit → Shared → Prop} (h : Q () s) : wpG M A (standAt pos) Q E s := fun _ _ _ _ _ => h

theorem codeG_mono {c : Code} {R R' : Result → Shared → Prop} (h : codeG M A c R s) (hR : ∀ r s, R r s → R' r s) : codeG M A c R' s :=
  fun Γ p hc hΓ hb => wpCode_mono hR (h Γ p hc hΓ hb)
theorem wpG_run {c : Code} {h : Option Value} {Q : Flow → Shared → Prop}
    (hc : codeG M (A.mark h) c (fun r s' => match r with | .ok f => Q f s' | .error e => E e s') s) (hnb : h ≠ some byPass := by intro x; cases x) :
    wpG M A (run c h) Q E s :=
  fun Γ p hΓ hcl hb => by rw [Sem.wp_run]; exact hc _ p rfl (hΓ.enter c h p hnb) (hb.cons hcl)
theorem wpG_runValue {c : Code} {Q : Value → Shared → Prop}
    (hc : codeG M A c (fun r s' => match r with | .ok (.ret v) => Q v s' | .ok _ => False | .error e => E e s') s) :
    wpG M A (runValue c) Q E s := fun Γ p hΓ hcl hb => by rw [Sem.wp_runValue]; exact hc _ p rfl (hΓ.enter c none p (by intro x; cases x)) (hb.cons hcl)
theorem wpG_call {f : Value} {pos : List Value} {kw : List (Str × Value)} {Q : Value → Shared → Prop}
    (hc : codeG M A (.call f ⟨pos, kw⟩) (fun r s' => match r with | .ok (.ret v) => Q v s' | .ok _ => False | .error e => E e s') s) :
    wpG M A (call f pos kw) Q E s := wpG_runValue hc
theorem codeG_tree {c : Code} {R : Result → Shared → Prop} (hcl : cleanC c = true)
    (h : wpG M (A.under c) (M.den c) (fun fin s' => match fin with | .done f => R (.ok f) s' | .again c' => c'.quiet = true ∧ codeG M A c' R s')
      (fun e s' => R (.error e) s') s) : codeG M A c R s := fun Γ p hc hΓ hb => by
  rw [wpCode_iff_wp, hc]
  refine Sem.wp_mono M Γ _ (fun fin p' s' h' => ?_) (fun _ _ _ h' => h') p s (h Γ p (hc ▸ hΓ.in) (hc ▸ hcl) hb)
  cases fin with
  | done f => exact h'
  | again c' => exact ⟨h'.1, h'.2 (Γ.goto c') p' rfl (hΓ.goto c') hb⟩
theorem codeG_loop {c : Code} {R : Result → Shared → Prop} (hcl : cleanC c = true) (hq : c.quiet = true) (I : Nat → Shared → Prop)
    (turn : ∀ n s, I n s → wpG M (A.under c) (M.den c)
      (fun fin s' => match fin with
        | .done f => R (.ok f) s'
        | .again c' => (c' = c ∧ ∃ m, m < n ∧ I m s') ∨ (c'.quiet = true ∧ codeG M A c' R s')) (fun e s' => R (.error e) s') s)
    (n : Nat) (h : I n s) : codeG M A c R s := by
  induction n using Nat.strongRecOn generalizing s with
  | ind n ih =>
    refine codeG_tree hcl (wpG_mono (turn n s h) (fun fin s' hf => ?_) fun _ _ h' => h')
    cases fin with
    | done f => exact hf
    | again c' =>
      rcases hf with ⟨rfl, m, hm, hI⟩ | hf
      · exact ⟨hq, ih m hm hI⟩
      · exact hf

theorem any_false {α : Type} {f : α → Bool} : ∀ {l : List α}, (∀ x ∈ l, f x = false) → l.any f = false
  | [], _ => rfl
  | x :: l, h => by rw [List.any_cons, h x List.mem_cons_self, any_false fun y hy => h y (List.mem_cons_of_mem _ hy)]; rfl
/-- nobody on a clean stack holds the object -/
theorem exported_false {self : Value} {Q : Bool → Shared → Prop} (h : Q false s) : wpG M A (Builtin.Bytes.exported self) Q E s := fun Γ p _ hc hb => by
  unfold Builtin.Bytes.exported
  rw [Sem.wp_bind']
  unfold stack
  rw [Sem.wp_stack]
  have hall : ∀ x ∈ ((Γ.code, p) :: Γ.below), cleanC x.1 = true := CleanB.cons hc hb
  show wp M Γ (Sem.pure _) _ _ p s
  rw [Sem.wp_pure]
  show Q _ s
  rw [any_false fun x hx => ?_]
  · exact h
  · have hx := hall x hx
    obtain ⟨c, q⟩ := x
    cases c with
    | builtin id va =>
      obtain ⟨l, kw⟩ := va
      have ne : ∀ y ∈ dirtyIds, id ≠ y := fun y hy e => by
        subst e
        have : dirtyIds.contains id = true := by simpa using hy
        have hx' : (!dirtyIds.contains id) = true := hx
        rw [this] at hx'; cases hx'
      have d1 := ne "bytearray.__contains__" (by decide)
      have d2 := ne "bytearray.__mod__" (by decide)
      have d3 := ne "bytearray.__rmod__" (by decide)
      have d4 := ne "_struct.pack_into.held" (by decide)
      have d5 := ne "bytearray.find.held" (by decide)
      have d6 : Builtin.Bytes.decodersThatHold.contains id = false := by
        rw [List.contains_eq_mem, decide_eq_false]
        intro h
        exact ne id (by simp [dirtyIds, h]) rfl
      delta Builtin.Bytes.exported.match_1
      refine (dif_neg d1).trans ((dif_neg d2).trans ((dif_neg d3).trans ((dif_neg d4).trans ((dif_neg d5).trans ?_))))
      cases l with
      | nil => rfl
      | cons v r =>
        show (Builtin.Bytes.sameRef v self && Builtin.Bytes.decodersThatHold.contains id) = false
        rw [d6, Bool.and_false]
    | _ => rfl
end
end Mine
end
section
open PySem PySem.W PySem.Calls PyProof.Rows
open Sem (wp)
set_option Elab.async false
namespace Mine

/-- the walk that is asked: of clean contexts alone -/
noncomputable abbrev WalkMine (q : Program) (loose : List Str) (XP : (Str → Option Value) → Heap → Prop) (YP : World → Heap → Prop) (r : RowW) (d : DefRec) (kwd : List (Str × Expr)) : Prop :=
  ∀ (w : World) (s₀ s₁ : Shared) (mg mb : Str → Option Value), Ground q loose r.records XP w s₀ mg mb s₁.heap → YP w s₁.heap → ∀ (a : Addr) (o : Obj) (pm cd doc dV kV : Value), s₁.heap.get? a = some o →
    o.data = .func { docDef d.name d.params d.body d.scope pm cd doc with defaults := dV, kwdefaults := kV } → s₁.heap.CodeRec cd d.name → Dflts mg s₁.heap d.params kwd dV kV → mg d.name = some (.ref a) → s₁.gens = #[] →
    ∀ (args : List WData) (vals : List Value) (as : List Addr), r.claim.pre args = true → WData.layableAll args = true → ReadsAllW r.records (classAt s₀.heap) s₁.heap vals args as → WellAll w.params s₁.heap vals args → (∀ a ∈ as, (a == sysModules) = false) →
      wpG (model r.prog w) callerA (PySem.call (.ref a) vals) (fun v s' => GoodWG r.claim (classAt s₀.heap) (ExcName.means s₀.heap) args s₁ (.ok (.ret v)) s')
        (fun e s' => GoodWG r.claim (classAt s₀.heap) (ExcName.means s₀.heap) args s₁ (.error e) s') s₁

/-- a thread over a tree that is shown of clean contexts comes to its end -/
theorem thread_ends_clean {prog : Program} {w : World} {t : Sem Fin} {s : Shared} {R : Result → Shared → Prop} (hreg : s.asleep)
    (h : wpG (model prog w) callerA t (fun fin s' => ∃ f, fin = .done f ∧ (R (.ok f) s' ∧ AllBare s'.gens)) (fun e s' => R (.error e) s' ∧ AllBare s'.gens) s) :
    ∃ n r s' s'', runN (denote table) prog w n s ⟨t, .builtin "claim.caller" {}, default, []⟩ = .halted (outcomeOf r) s' ∧
      schedN (denote table) prog w n (.single s ⟨t, .builtin "claim.caller" {}, default, []⟩) = .halted (outcomeOf r) s' ∧ s'.forget = s''.forget ∧ R r s'' := by
  have h0 := h ⟨.builtin "claim.caller" {}, none, none, [], none⟩ default caller_in (by decide +kernel) CleanB.nil
  obtain ⟨n, r, s₁, s₂, hs, hn, hfo, hR⟩ := wp_halts_full (M := model prog w) (R := R) hreg
    (Sem.wp_mono _ _ t (fun fin p' s' h' => by
      obtain ⟨f, rfl, hf, hb⟩ := h'
      exact ⟨hf, leftWithCleanup_false_of_bare hb⟩) (fun e p' s' h' => ⟨h'.1, leftWithCleanup_false_of_bare h'.2⟩) default s h0)
  exact ⟨n, r, s₂, s₁, hn, hs, hfo, hR⟩

theorem callFrom_clean {c : ClaimW} {tree : List Value → Sem Fin} {w : World} {s : Shared} {free : Addr → Prop} {gens : Prop} {kept : Heap → Prop} (hz : s.asleep) (hgens : s.gens = #[])
    (hspec : ∀ args, c.pre args = true → WData.layableAll args = true → ∀ ord : List DictEntry → List DictEntry, (∀ l, (ord l).Perm l) →
      ∃ vs s₁, layAllW c.records (classAt s.heap) w.params ord args s = some (vs, s₁) ∧
        wpG (model c.prog w) callerA (tree vs) (fun fin s' => ∃ f, fin = .done f ∧ ((c.Ends s args vs s₁ (.ok f) s' ∧ s'.os = s.os ∧ kept s'.heap) ∧ AllBare s'.gens))
          (fun e s' => (c.Ends s args vs s₁ (.error e) s' ∧ s'.os = s.os ∧ kept s'.heap) ∧ AllBare s'.gens) s₁) :
    c.CallFrom (fun vs => ⟨tree vs, .builtin "claim.caller" {}, default, []⟩) w free gens kept s := by
  intro args hpre hlay ord hord
  obtain ⟨vs, s₁, hlaid, hcode⟩ := hspec args hpre hlay ord hord
  have hal := layAllW_rest _ _ _ hlaid
  obtain ⟨k, r, s', s'', hrun, hsched, hfo, hcase, hos, hkp⟩ := thread_ends_clean (R := fun r s' => c.Ends s args vs s₁ r s' ∧ s'.os = s.os ∧ kept s'.heap)
    (Shared.asleep_of_life hal.2.2.2 hz) hcode
  obtain ⟨eh, _, _, eo, _⟩ := Shared.forget_eq hfo
  have hends := hcase.congr eh
  rw [← eh] at hkp
  rw [← eo] at hos
  have hlife : s'.heap.life = s.heap.life := (runN_life _ _ _ hrun).trans hal.2.2.2
  refine ⟨vs, s₁, hlaid, k, _, s', hsched, ?_, (fun _ i x hx => by rw [hgens] at hx; simp at hx), hkp, by rw [hlife], Shared.rest_eq hos⟩
  rcases hends with ⟨v, rfl, d1, d2, d3, d4, d5⟩ | ⟨e, ob, cls, rfl, d1, d2, d3, d4, d5⟩
  · exact .inl ⟨v, rfl, d1, d2, d3, fun b o y _ => d4 b o y, d5⟩
  · exact .inr ⟨e, ob, cls, rfl, d1, d2, d3, d4, fun b o y _ => d5 b o y⟩

/-- the head of an open row whose walk is shown of clean contexts; it bears the name that the kit's head word looks up, under my namespace -/
theorem PySem.W.holds_open {r : OpenRow} {q : Program} {loose : List Str} {Xt : Shared → Bool} {XP : (Str → Option Value) → Heap → Prop} {α : Type} {Yf : Shared → α} {Ya : World → α} {YP : World → Heap → Prop} {d : DefRec} {kwd : List (Str × Expr)} {N : Nat}
    (left : LeftO r.prog q loose Xt Yf Ya N) (hY : ∀ w s, Yf s = Ya w → YP w s.heap) (hYk : ∀ w h h', YP w h → (∀ b o, h.get? b = some o → h'.get? b = some o) → YP w h')
    (hX : ∀ s, Xt s = true → XP (s.heap.nsMap mainGlobals) s.heap) (hXk : ∀ mg h h', XP mg h → (∀ b o, h.get? b = some o → h'.get? b = some o) → XP mg h')
    (hdef : defOf q r.name = some (d, kwd)) (hp : r.prog.theDef r.name = some (d.params, d.body, d.scope)) (hk : kwWritten? d.params.kwonlyargs d.params.kw_defaults = some kwd) (hRf : ∀ s, Xt s = true → RecFacts r.records s.heap) (hwr : (!r.writes || r.records.isEmpty) = true)
    (k1 : r.wellSaid = true) (ok : (chainsOk q && opensWell r.prog && (frees r.toRowW && r.within.isEmpty)) = true) (hb : r.prog.bare) (hw : r.toRowW.promised)
    (call : WalkMine q loose XP YP r.toRowW d kwd) : r.Holds := by
  refine ⟨k1, hw, ?_⟩
  obtain ⟨ok1, k5⟩ := Bool.and_eq_true_iff.mp ok
  obtain ⟨hch, o1⟩ := Bool.and_eq_true_iff.mp ok1
  obtain ⟨k5, k6⟩ := Bool.and_eq_true_iff.mp k5
  obtain ⟨hsame, hu, ha, hap, hm⟩ := frees_parts k5
  have hi := ident_freeW (r := r.toRowW) hu ha hap
  have hwi : r.toRowW.claim.within = [] := List.isEmpty_iff.mp k6
  refine ⟨⟨hb, o1, by show r.makers.map _ = []; rw [hm]; rfl⟩, hw.witness, fun w => ⟨(left.behind hX hch w).1, fun s' hs' => ?_⟩⟩
  obtain ⟨s₀, hf, hg0, s, hT, hz, hgens, hg, G00, y⟩ := (left.behind (XP := fun mg h => XP mg h ∧ RecFacts r.records h) (fun s hs => ⟨hX s hs, hRf s hs⟩) hch w).2 s' hs'
  have G0 : Ground q loose [] XP w s (s.heap.nsMap mainGlobals) (s.heap.nsMap builtinsNs) s.heap := ⟨G00.T, G00.B, G00.D, G00.TE, G00.TD, G00.W, G00.X.1, G00.cls, G00.has, G00.apart, G00.once, G00.K⟩
  have RF := G00.X.2
  refine ⟨s₀, hf, hg0, s, hT, fun n hn => ?_, RF.1, RF.2.1, ?_⟩
  · obtain rfl : n = r.name := by split at hn <;> simp_all
    exact pinned_of_view hg G0 hdef hp hk
  have hgens : s.gens = #[] := Array.eq_empty_of_size_eq_zero (beq_iff_eq.mp hgens)
  have G : Ground q loose r.records XP w s _ _ s.heap := RF.ground G0
  refine callFrom_clean (c := r.toRowW.claim) hz hgens fun args hpre hlay ord hord => ?_
  obtain ⟨⟨vs, s₁⟩, hlaid⟩ := Option.isSome_iff_exists.mp (layAllW_isSome (P := w.params) (ord := ord) G.has args r.args s (pre_splitW hpre).1)
  have keeps := layAllW_keeps _ _ _ hlaid
  have hal := layAllW_rest _ _ _ hlaid
  obtain ⟨as, hrd, hin, hold⟩ := reads_layAllW hord _ _ _ hlaid hlay s₁.heap (fun _ _ e => e)
  have L : Laid r.records w s s₁ args vs as := ⟨⟨ord, hord, hlaid⟩, hrd, hin, hold, keeps, hal.1.trans hgens, hal.2.2.1⟩
  have G₁ := G.keeps hXk keeps
  obtain ⟨a, o, pm, cd, doc, dV, kV, h1, h2, h3, h4, h5⟩ := G₁.fn hdef
  have walk := call w s s₁ _ _ G₁ (hYk _ _ _ (hY w s y) keeps) a o pm cd doc dV kV h2 h3 h4 h5 (defOf_name hdef ▸ h1) L.gens args vs as hpre hlay L.reads L.well (L.low G.low)
  refine ⟨vs, s₁, hlaid, wpG_bindA (wpAny_nsGet G₁.T.g ?_)⟩
  rw [h1]
  refine wpG_bind (wpG_mono walk (fun v s' g => wpG_pure ⟨_, rfl, ?_⟩) fun e s' g => ?_)
  · have z := g.laid (c := r.toRowW.claim) hsame hwi hi L
    exact ⟨⟨z.1, z.2.1, fun q => ⟨namesKept_of hT hg r.keeps keeps g.2.1.old, noTable hwr q⟩⟩, z.2.2⟩
  · have z := g.laid (c := r.toRowW.claim) hsame hwi hi L
    exact ⟨⟨z.1, z.2.1, fun q => ⟨namesKept_of hT hg r.keeps keeps g.2.1.old, noTable hwr q⟩⟩, z.2.2⟩
end Mine
end
section
open PySem PySem.W PySem.Calls PyProof.Rows
open Sem (wp)
set_option Elab.async false
namespace Mine

section
variable {M : Model} {A : Around} {E : Value → Shared → Prop} {s : Shared} {env : Env}

theorem execsG_nil {Q : Flow → Shared → Prop} (h : Q .next s) : wpG M A (execs [] env) Q E s := fun _ _ _ _ _ => h
theorem execsG_cons {st rest} {Q : Flow → Shared → Prop}
    (h : wpG M A (exec st env) (fun f s' => match f with | .next => wpG M A (execs rest env) Q E s' | f => Q f s') E s) :
    wpG M A (execs (st :: rest) env) Q E s := by
  rw [execs_cons]
  refine wpG_bind (wpG_mono h (fun f s' h' => ?_) fun _ _ x => x)
  cases f <;> first | exact h' | exact wpG_pure h'
/-- a statement that the kit walks; behind it mine -/
theorem execsG_leaf {st rest} {Q : Flow → Shared → Prop}
    (h : wpAny M A (exec st env) (fun f s' => match f with | .next => wpG M A (execs rest env) Q E s' | f => Q f s') E s) :
    wpG M A (execs (st :: rest) env) Q E s := execsG_cons (wpG_of h)
theorem assignG {x pos' value pos} {Q : Flow → Shared → Prop}
    (h : wpG M A (eval value env) (fun v s₁ => wpAny M A (storeName env x v) (fun _ => Q .next) E s₁) E s)
    (hs : swapsWith value (some (.Name x pos')) pos.line env = pure false := by rfl) :
    wpG M A (exec (.Assign [.Name x pos'] value pos) env) Q E s := by
  rw [exec_Assign_Name env x pos' value pos hs]
  exact wpG_bind (wpG_standAt (wpG_bind (wpG_mono h (fun v s₁ h₁ => wpG_bind (wpG_standAt (wpG_bindA (wpAny_bindName (wpAny_mono h₁ (fun _ _ q => wpG_pure q) fun _ _ x => x))))) fun _ _ x => x)))
theorem ifG {test body orelse pos} {Q : Flow → Shared → Prop}
    (h : wpG M A (isTrue test env (eval test env))
      (fun b s₂ => if b then wpG M A (execs body env) Q E s₂ else wpG M A (execs orelse env) Q E s₂) E s) :
    wpG M A (exec (.If test body orelse pos) env) Q E s := by
  rw [exec_If]
  refine wpG_bind (wpG_standAt (wpG_bind (wpG_mono h (fun b s₂ h₂ => ?_) fun _ _ x => x)))
  cases b <;> exact h₂
theorem isTrueG_Compare {l op r pos whole} {Q : Bool → Shared → Prop}
    (h : wpG M A (eval l env) (fun a s₁ => wpAny M A (eval r env) (fun b s₂ => wpAny M A (compareOp op a b)
      (fun c s₃ => wpAny M A (truthy c) Q E s₃) E s₂) E s₁) E s)
    (hm : behindInMarks op r = false := by with_unfolding_all rfl) : wpG M A (isTrue (.Compare l [op] [r] pos) env whole) Q E s := by
  rw [isTrue_Compare1, markedBehindIn_of_false hm]
  refine wpG_bind (wpG_mono h (fun a s₁ h₁ => ?_) fun _ _ x => x)
  refine wpG_of fun Γ p hΓ => ?_
  simp only [Sem.wp_bind', Sem.wp_holding, Sem.wp_cmd_standAt, Sem.wp_operate]
  exact Sem.wp_mono M Γ _ (fun b _ s₂ h₂ => Sem.wp_mono M Γ _ (fun c p₃ s₃ h₃ => h₃ Γ p₃ hΓ)
    (fun _ _ _ h' => h') _ _ (h₂ Γ _ hΓ)) (fun _ _ _ h' => h') _ _ (h₁ Γ p hΓ)
theorem compareG {l op r pos} {Q : Value → Shared → Prop}
    (h : wpG M A (eval l env) (fun a s₁ => wpAny M A (eval r env) (fun b s₂ => wpAny M A (compareOp op a b) Q E s₂) E s₁) E s)
    (hm : behindInMarks op r = false := by with_unfolding_all rfl) : wpG M A (eval (.Compare l [op] [r] pos) env) Q E s := by
  rw [eval_Compare1, markedBehindIn_of_false hm]
  refine wpG_bind (wpG_mono h (fun a s₁ h₁ => ?_) fun _ _ x => x)
  refine wpG_of fun Γ p hΓ => ?_
  simp only [Sem.wp_bind', Sem.wp_holding, Sem.wp_cmd_standAt, Sem.wp_operate]
  exact Sem.wp_mono M Γ _ (fun b _ s₂ h₂ => h₂ Γ _ hΓ) (fun _ _ _ h' => h') _ _ (h₁ Γ p hΓ)
theorem returnG {e pos} {Q : Flow → Shared → Prop} (h : wpG M A (eval e env) (fun v => Q (.ret v)) E s) :
    wpG M A (exec (.Return (some e) pos) env) Q E s := by
  rw [exec_Return_some]
  exact wpG_bind (wpG_standAt (wpG_bind (wpG_mono h (fun _ _ q => wpG_pure q) fun _ _ x => x)))
theorem ifExpG {test body orelse pos} {Q : Value → Shared → Prop}
    (h : wpAny M A (isTrue test env (eval test env)) (fun b s₁ => if b then wpG M A (eval body env) Q E s₁ else wpG M A (eval orelse env) Q E s₁) E s) :
    wpG M A (eval (.IfExp test body orelse pos) env) Q E s := by
  have e : eval (.IfExp test body orelse pos) env = (do if ← isTrue test env (eval test env) then eval body env else eval orelse env) := rfl
  rw [e]
  refine wpG_bindA (wpAny_mono h (fun b s₁ h₁ => ?_) fun _ _ x => x)
  cases b <;> exact h₁
theorem tupleG {elts : List Expr} {k : Nat} {pos : Pos} {Q : Value → Shared → Prop}
    (h : wpG M A (spliced (backTo pos (starEach elts env))) (fun vs s₁ => wpAny M A (newTuple vs) Q E s₁) E s) : wpG M A (eval (.Tuple elts k pos) env) Q E s := by
  have e : eval (.Tuple elts k pos) env = (do standAt pos; newTuple (← spliced (backTo pos (starEach elts env)))) := rfl
  rw [e]
  exact wpG_bind (wpG_standAt (wpG_bind (wpG_mono h (fun _ _ q => wpG_of q) fun _ _ x => x)))

theorem splicedG_cons {x : Sem Value} {rest : List (Bool × Sem Value)} {Q : List Value → Shared → Prop}
    (h : wpG M A x (fun v s₁ => wpG M A (spliced rest) (fun vs s₂ => Q (v :: vs) s₂) E s₁) E s) : wpG M A (spliced ((false, x) :: rest)) Q E s := by
  rw [spliced]
  refine wpG_bind (wpG_mono h (fun v s₁ h₁ => ?_) fun _ _ x => x)
  simp only [Bool.false_eq_true, if_false]
  exact wpG_bind (wpG_pure (wpG_bind (wpG_holding (wpG_mono h₁ (fun vs s₂ h₂ => wpG_pure h₂) fun _ _ x => x))))
theorem argsG_nil {pos : Pos} {Q : List Value → Shared → Prop} (h : Q [] s) : wpG M A (spliced (backTo pos (starEach [] env))) Q E s := wpG_of (spliced_nil h)
theorem argsG_cons {e : Expr} {rest : List Expr} {pos : Pos} {Q : List Value → Shared → Prop}
    (h : wpG M A (eval e env) (fun v s₁ => wpG M A (spliced (backTo pos (starEach rest env))) (fun vs s₂ => Q (v :: vs) s₂) E s₁) E s)
    (he : starEach (e :: rest) env = (false, eval e env) :: starEach rest env := by rfl) : wpG M A (spliced (backTo pos (starEach (e :: rest) env))) Q E s := by
  rw [he]; exact splicedG_cons h
theorem evalArgsG {f : Value} {x : Sem Value} {rest : List (Bool × Sem Value)} {Q : Args → Shared → Prop}
    (h : wpG M A (spliced ((false, x) :: rest)) (fun vs s' => Q ⟨vs, []⟩ s') E s) : wpG M A (evalArgs f true ((false, x) :: rest) []) Q E s := by
  unfold evalArgs
  show wpG M A (spliced ((false, x) :: rest) >>= _) Q E s
  refine wpG_bind (wpG_mono h (fun vs s' h' => ?_) fun _ _ x => x)
  refine wpG_holding ?_
  exact wpG_bind (wpG_pure (wpG_bind (wpG_pure (wpG_pure h'))))

/-- what keeps a callee while it is called -/
noncomputable def Kept (M : Model) (h : Heap) (f : Value) : Prop := ∃ k, (k = Keeper.frame ∨ k = Keeper.machine ∨ k = Keeper.boundFrame) ∧ Looks M h (keeperOf f) k

theorem callWithG_of {pos : Pos} {f : Value} {first : List Value} {args : List (Bool × Sem Value)} {Q : Value → Shared → Prop} (hplain : args.any (·.1) = false)
    (h : wpG M A (evalArgs f true args []) (fun a s₁ => Kept M s₁.heap f ∧ wpG M A (call f (first ++ a.pos) a.kw) Q E s₁) E s) : wpG M A (callWith pos f first args []) Q E s := by
  unfold callWith
  refine wpG_bind (wpG_holding (wpG_mono h (fun a s₁ h₁ => wpG_bind (wpG_standAt ?_)) fun _ _ x => x))
  obtain ⟨⟨k, hk', L⟩, h₁⟩ := h₁
  simp only [hplain, List.any_nil, Bool.or_false]
  refine wpG_bindA (L.here ?_)
  have tail : ∀ {t : Sem Value}, wpG M A t Q E s₁ → wpG M A (t >>= fun r => holding [r] point >>= fun _ => pure r) Q E s₁ :=
    fun ht => wpG_bind (wpG_mono ht (fun r s₂ hr => wpG_bind (wpG_of (wpAny_holding (wpAny_point (wpG_pure hr))))) fun _ _ x => x)
  have marked (mk : Value) : wpG M A (callMarked mk f (first ++ a.pos) a.kw) Q E s₁ := by unfold callMarked; exact wpG_keep h₁
  rcases hk' with rfl | rfl | rfl <;> dsimp only <;> first | exact tail h₁ | (split <;> first | exact tail h₁ | exact tail (marked _))
theorem callWithG {pos : Pos} {f : Value} {first : List Value} {e : Expr} {rest : List Expr} {Q : Value → Shared → Prop}
    (h : wpG M A (spliced (backTo pos (starEach (e :: rest) env))) (fun vs s₁ => Kept M s₁.heap f ∧ wpG M A (call f (first ++ vs)) Q E s₁) E s)
    (he : starEach (e :: rest) env = (false, eval e env) :: starEach rest env := by rfl) (hplain : (backTo pos (starEach rest env)).any (·.1) = false := by rfl) :
    wpG M A (callWith pos f first (backTo pos (starEach (e :: rest) env)) []) Q E s := by
  rw [he] at h ⊢
  exact callWithG_of (by show (false || (backTo pos (starEach rest env)).any (·.1)) = false; rw [hplain]; rfl) (evalArgsG h)
theorem callWithG0 {pos : Pos} {f : Value} {first : List Value} {Q : Value → Shared → Prop} (k : Kept M s.heap f)
    (h : wpG M A (call f (first ++ [])) Q E s) : wpG M A (callWith pos f first (backTo pos (starEach [] env)) []) Q E s :=
  callWithG_of rfl (wpG_of (evalArgs_nil3 ⟨k, h⟩))
theorem callG {func : Expr} {args : List Expr} {pos : Pos} {Q : Value → Shared → Prop}
    (h : wpAny M A (eval func env) (fun f s₁ => wpG M A (callWith pos f [] (backTo pos (starEach args env)) []) Q E s₁) E s)
    (he : eval (.Call func args [] pos) env = (do callWith pos (← eval func env) [] (backTo pos (starEach args env)) (backToKw pos (keywordEach [] env))) := by rfl) :
    wpG M A (eval (.Call func args [] pos) env) Q E s := by
  rw [he]; exact wpG_bindA h
theorem kept_type {n : String} {h : Heap} : Kept M h (.type n) := ⟨.machine, .inr (.inl rfl), Looks.of_pure rfl⟩
theorem kept_builtin {n : String} {h : Heap} : Kept M h (.builtin n) := ⟨.machine, .inr (.inl rfl), Looks.of_pure rfl⟩
theorem kept_fn {h : Heap} {a : Addr} {o : Obj} {fd : FuncData} (ho : h.get? a = some o) (hd : o.data = .func fd) : Kept M h (.ref a) :=
  ⟨.frame, .inl rfl, (Looks.ld (part := none) ho).andThen (by rw [hd]; exact .now)⟩
theorem kept_bound {h : Heap} {a : Addr} {o : Obj} {vs : Array Value} (ho : h.get? a = some o) (hc : o.cls = .type "builtin_function_or_method") (hd : o.data = .fields vs) : Kept M h (.ref a) :=
  ⟨.machine, .inr (.inl rfl), (Looks.ld (part := none) ho).andThen (by rw [hd, hc]; exact .now)⟩
end

section
variable {prog : Program} {w : World} {A : Around} {E : Value → Shared → Prop} {R : Result → Shared → Prop} {s : Shared} {env : Env}

theorem exprG {e pos} {Q : Flow → Shared → Prop} (h : wpG (model prog w) A (eval e env) (fun _ => Q .next) E s)
    (hi : interactive env = false := by rfl) (hs : swapsWith e none pos.line env = pure false := by rfl) :
    wpG (model prog w) A (exec (.Expr e pos) env) Q E s := by
  rw [exec_Expr env e pos hi hs]
  exact wpG_bind (wpG_standAt (wpG_bind (wpG_mono h (fun v s' h' => wpG_of (wpAny_dropValue h')) fun _ _ x => x)))

theorem notedG {α : Type} {m : Sem α} {Q : α → Shared → Prop} (h : wpG (model prog w) A m Q (notedBy (model prog w) A env E) s) : wpG (model prog w) A (m.onRaise fun x => do noteFrame x env; theTreesLotGoes x) Q E s :=
  wpG_onRaise (wpG_mono h (fun _ _ q => q) fun _ _ hx => wpG_of (wpAny_bind (wpAny_mono hx (fun _ _ e => wpAny_theTreesLotGoes e) fun _ _ e => e)))
theorem blockG {stmts : List Stmt}
    (h : wpG (model prog w) A (execs stmts env) (fun f s' => R (.ok f) s') (notedBy (model prog w) A env fun e s' => R (.error e) s') s) : codeG (model prog w) A (.block stmts env) R s := by
  refine codeG_tree rfl ?_
  show wpG _ _ (do return Fin.done (← (execs stmts env).onRaise (fun x => do noteFrame x env; theTreesLotGoes x))) _ _ s
  exact wpG_bind (notedG (wpG_mono h (fun f s' h' => wpG_pure h') fun _ _ h' => h'))
theorem runOwnG {c : Code} {h : Option Value} {Q : Flow → Shared → Prop}
    (hc : codeG (model prog w) (A.mark h) c (fun r s' => match r with | .ok f => Q f s' | .error e => cameBackBy (model prog w) A env E e s') s) (hnb : h ≠ some byPass := by intro x; cases x) :
    wpG (model prog w) A (runOwn c env h) Q E s := by
  unfold runOwn
  exact wpG_onRaise (wpG_mono (wpG_run hc hnb) (fun _ _ q => q) fun _ _ q => wpG_of q)
theorem whileG {test body orelse pos} {Q : Flow → Shared → Prop}
    (h : codeG (model prog w) A (.whileLoop test body orelse env) (fun r s' => match r with | .ok f => Q f s' | .error e => cameBackBy (model prog w) A env E e s') s) :
    wpG (model prog w) A (exec (.While test body orelse pos) env) Q E s := by
  rw [exec_While]; exact wpG_bind (wpG_standAt (runOwnG h))
theorem whileLoopG {test body orelse} (I : Nat → Shared → Prop)
    (turn : ∀ n s, I n s →
      wpAny (model prog w) A (isTrue test env (eval test env)) (fun b s₂ =>
        if b then wpG (model prog w) A (execs body env) (fun f s₃ => match f with
            | .next | .cont => ∃ m, m < n ∧ I m s₃
            | .brk => R (.ok .next) s₃
            | .ret v => R (.ok (.ret v)) s₃) (notedBy (model prog w) A env fun e s' => R (.error e) s') s₂
        else wpG (model prog w) A (execs orelse env) (fun f s₃ => R (.ok f) s₃) (notedBy (model prog w) A env fun e s' => R (.error e) s') s₂)
        (notedBy (model prog w) A env fun e s' => R (.error e) s') s)
    (n : Nat) (h : I n s) : codeG (model prog w) A (.whileLoop test body orelse env) R s := by
  refine codeG_loop rfl rfl I (fun n s hI => ?_) n h
  show wpG _ A ((whileTurn test body orelse env).onRaise (fun x => do noteFrame x env; theTreesLotGoes x)) _ _ s
  refine notedG ?_
  simp only [whileTurn]
  refine wpG_bindA (wpAny_mono (turn n s hI) (fun b s₂ h₂ => ?_) fun _ _ h' => h')
  cases b with
  | false =>
    simp only [Bool.false_eq_true, if_false] at h₂ ⊢
    exact wpG_bind (wpG_mono h₂ (fun f s₃ h₃ => wpG_pure h₃) fun _ _ h' => h')
  | true =>
    simp only [if_true] at h₂ ⊢
    refine wpG_bind (wpG_mono h₂ (fun f s₃ h₃ => ?_) fun _ _ h' => h')
    cases f with
    | next => exact wpG_pure (.inl ⟨rfl, h₃⟩)
    | cont => exact wpG_pure (.inl ⟨rfl, h₃⟩)
    | brk => exact wpG_pure h₃
    | ret v => exact wpG_pure h₃
theorem forG {target iter body orelse pos} {Q : Flow → Shared → Prop}
    (h : wpAny (model prog w) A (eval iter env) (fun x s₁ => wpAny (model prog w) A (pyIter x) (fun it s₂ =>
      codeG (model prog w) A (.forLoop target it body orelse env) (fun r s' => match r with | .ok f => Q f s' | .error e => cameBackBy (model prog w) A env E e s') s₂) E s₁) E s)
    (hs : ∀ x, foldedSetIterable iter env x = pure x := by intro _; rfl) :
    wpG (model prog w) A (exec (.For target iter body orelse pos) env) Q E s := by
  rw [exec_For]
  exact wpG_bind (wpG_standAt (wpG_bindA (wpAny_mono h (fun x s₁ h₁ => by
    rw [hs x]
    exact wpG_bind (wpG_pure (wpG_bind (wpG_standAt (wpG_bindA (wpAny_holding (wpAny_mono h₁ (fun it s₂ h₂ => runOwnG h₂) fun _ _ h' => h'))))))) fun _ _ h' => h')))
theorem forLoopG {target it body orelse} (I : Nat → Shared → Prop)
    (turn : ∀ n s, I n s → wpAny (model prog w) A (pyNext it) (fun r s₁ => match r with
      | none => wpG (model prog w) A (execs orelse env) (fun f s₃ => R (.ok f) s₃) (notedBy (model prog w) A env fun e s' => R (.error e) s') s₁
      | some v => wpAny (model prog w) A (assign target env v) (fun _ s₂ => wpG (model prog w) A (execs body env) (fun f s₃ => match f with
          | .next | .cont => ∃ m, m < n ∧ I m s₃
          | .brk => R (.ok .next) s₃
          | .ret v => R (.ok (.ret v)) s₃) (notedBy (model prog w) A env fun e s' => R (.error e) s') s₂) (notedBy (model prog w) A env fun e s' => R (.error e) s') s₁) (notedBy (model prog w) A env fun e s' => R (.error e) s') s)
    (n : Nat) (h : I n s) (ht : ∀ v, letOwnedTupleGo target it v = pure () := by intro _; rfl) : codeG (model prog w) A (.forLoop target it body orelse env) R s := by
  refine codeG_loop rfl rfl I (fun n s hI => ?_) n h
  show wpG _ A ((forTurn target it body orelse env).onRaise (fun x => do noteFrame x env; theTreesLotGoes x)) _ _ s
  refine notedG ?_
  simp only [forTurn]
  refine wpG_bind (wpG_standAt (wpG_bind (wpG_onRaise (wpG_of (wpAny_mono (turn n s hI) (fun r s₁ h₁ => ?_) fun _ _ h' => wpG_standAt h')))))
  cases r with
  | none => exact wpG_pure (.inr ⟨rfl, blockG h₁⟩)
  | some v =>
    dsimp only at h₁ ⊢
    refine wpG_bindA (wpAny_of_eq (ht v) ?_)
    refine wpG_bindA (wpAny_mono h₁ (fun _ s₂ h₂ => wpG_bind (wpG_mono h₂ (fun f s₃ h₃ => ?_) fun _ _ h' => h')) fun _ _ h' => h')
    cases f with
    | next => exact wpG_pure (.inl ⟨rfl, h₃⟩)
    | cont => exact wpG_pure (.inl ⟨rfl, h₃⟩)
    | brk => exact wpG_pure h₃
    | ret v => exact wpG_pure h₃

theorem funcG {body}
    (h : wpG (model prog w) (A.deeper env) (execs body env) (fun f s' => R (.ok (.ret (match f with | .ret v => v | _ => .none))) s')
      (fun e s' => wpAny (model prog w) (A.deeper env) (leaving env e) (fun _ s'' => R (.error e) s'') (fun e' s'' => R (.error e') s'') s') s) :
    codeG (model prog w) A (.func body env) R s := by
  refine codeG_tree rfl ?_
  show wpG _ (A.deeper env) (do point; match ← (execs body env).onRaise (leaving env) with | .ret v => ret v | _ => ret .none) _ _ s
  refine wpG_bind (wpG_of (wpAny_point (wpG_bind (wpG_onRaise (wpG_mono h (fun f s' h' => ?_) fun _ _ h' => wpG_of h')))))
  cases f <;> exact wpG_pure h'
theorem callFnG {a : Addr} {args : Args} {o : Obj} {fd : FuncData} {body : List Stmt} (hroom : A.depth < recursionLimit)
    (ho : s.heap.get? a = some o) (hd' : o.data = .func fd) (hco : fd.scope.isCoroutine = false) (hgen : fd.scope.isGenerator = false) (hbody : fd.body = .stmts body) (hcd : s.heap.CodeRec fd.code fd.qualname)
    (h : wpAny (model prog w) A.in1 (bindArgs fd args) (fun binds s₁ =>
      wpAny (model prog w) A.in1 (newFunctionEnv fd.scope fd.globals fd.closure binds (fd.qualname ++ ".<locals>.") (some a) fd.code none fd.builtins)
        (fun env s₂ => s₂.heap.NoLimit ∧ codeG (model prog w) A (.func body env) R s₂) (fun e s' => R (.error e) s') s₁) (fun e s' => R (.error e) s') s) :
    codeG (model prog w) A (.call (.ref a) args) R s := by
  refine codeG_tree rfl (wpG_of ?_)
  show wpAny _ A.in1 (callAny (.ref a) args) _ _ s
  simp only [callAny]
  refine wpAny_bind (wpAny_load ho ?_)
  obtain ⟨c, oc, vs, tq, hc, hoc, hdc, hq⟩ := hcd
  simp only [hd', callFunction, hco, hgen, hbody, hc]
  rw [hc] at h
  refine wpAny_bind (m := field (.ref c) 1) (wpAny_field hoc hdc hq (wpAny_bind (wpAny_pure ?_)))
  exact wpAny_bind (wpAny_mono h (fun binds s₁ h₁ => wpAny_bind (wpAny_mono h₁ (fun env s₂ h₂ => wpAny_bind (wpAny_enterFrame h₂.1 hroom
    (wpAny_pure (And.intro rfl h₂.2)))) fun _ _ h' => h')) fun _ _ h' => h')
end

section
variable {prog : Program} {w : World} {A₀ A : Around} {s : Shared} {base h₀ : Heap} {outer : List Env} {L : Addr} {m mg mb : Str → Option Value} {env : Env} {news : List (Addr × Obj)} {K : Frag} {p : Program} {loose : List Str} {mean : ExcName → Option Value}
  {R : Result → Shared → Prop} {name qual : Str} {params : Arguments} {body : List Stmt} {scope : Scope} {dV kV doc pm cdv ct oc : Value} {an od : Option Addr} {osl : Array (Option Value)} {f : Addr} {args : Args} {binds : List (Str × Value)}
/-- a def of the text is entered, in clean contexts (the kit's code_def) -/
theorem defG (B : Below A₀ base outer h₀) (F : Fr h₀ L s.heap m) (X₀ : K.In h₀) (N : News h₀ L s.heap news) (T : Top p loose mean mg mb h₀) (hA : A.frames = some (env :: outer)) (hf : env.frame = some L) (hke : env.scope.kind = .function)
    (ho : K.lookup f = some ⟨oc, od, .func (fnOf name qual params body scope dV kV doc pm an cdv ct), osl⟩) (hcd : codeIn K cdv qual = true) (hroom : A.depth < recursionLimit)
    (hbind : BindsTo s (fnOf name qual params body scope dV kV doc pm an cdv ct) args binds) (hloc : ∀ y ∈ binds, scope.names.lookup y.1 = some .local)
    (h : ∀ g L' h₁, Fr h₀ L g m → Fr g L' h₁ (fun y => binds.reverse.lookup y) → News g L' h₁ news → Below A base (env :: outer) g → K.In g → Top p loose mean mg mb g → (∀ p ∈ news, p.1 < L') →
      wpG (model prog w) (A.deeper (envOf qual scope L' f cdv)) (execs body (envOf qual scope L' f cdv))
        (fun fl s' => LeaveK h₀ L m g R (match fl with | .ret v => v | _ => .none) s')
        (fun e s' => wpAny (model prog w) (A.deeper (envOf qual scope L' f cdv)) (leaving (envOf qual scope L' f cdv) e) (fun _ s'' => R (.error e) s'') (fun e' s'' => R (.error e') s'') s')
        { s with heap := h₁, toks := s.toks + binds.length })
    (hcell : ∀ x ∈ scope.names, x.2 ≠ .cell) (hco : scope.isCoroutine = false := by rfl) (hgen : scope.isGenerator = false := by rfl) (hk : scope.kind = .function := by rfl) : codeG (model prog w) A (.call (.ref f) args) R s := by
  obtain ⟨FG, BG, st, lv⟩ := groundX (R := R) B F N hA hf hke
  refine callFnG (fd := fnOf name qual params body scope dV kV doc pm an cdv ct) hroom (F.keep _ _ (X₀ _ _ ho)) rfl hco hgen rfl ((codeRec_of X₀ hcd).keeps F.keep) (hbind _ _ _ _ ?_)
  refine wpAny_newFunctionEnv hcell hloc (fun h₁ hns hsb => ?_) hk
  have hk₁ : ∀ b o, s.heap.get? b = some o → h₁.get? b = some o := fun b o e => hsb.extBut b o (Nat.ne_of_lt (Heap.lt_size e)) (Heap.get?_push_of_some _ e)
  refine ⟨(T.nolimit.keeps F.keep).keeps hk₁, funcG ?_⟩
  exact wpG_mono (h _ s.heap.objs.size h₁ FG ⟨hns, fun b o e => hk₁ b o (of_hideAll _ e), Nat.le_of_eq (hideAll_size _ _)⟩
    (fun p hp => ⟨hk₁ _ _ (N p hp).1, Nat.ne_of_lt (Heap.lt_size (N p hp).1), hideAll_none _ (List.mem_map_of_mem hp)⟩) BG (X₀.keeps st) (T.keeps st) (fun p hp => Heap.lt_size (N p hp).1)) (fun fl s' hl => lv _ _ hl) fun _ _ y => y
end
end Mine
end
section
open PySem PySem.W PySem.Calls PyProof.Rows
open Sem (wp)
set_option Elab.async false
set_option maxRecDepth 100000
namespace Mine
section
variable {prog : Program} {w : World} {A : Around} {E : Value → Shared → Prop} {s : Shared} {env : Env}
/-- a try in clean contexts; its clauses in the kit's logic -/
theorem tryG {body orelse : List Stmt} {c₀ : ExceptHandler} {cs : List ExceptHandler} {pos : Pos} {Q : Flow → Shared → Prop}
    (h : wpG (model prog w) A (execs body env) (fun f s₁ => match f with | .next => wpG (model prog w) A (execs orelse env) Q E s₁ | f => Q f s₁)
      (fun e s₁ => wpAny (model prog w) A (noteFrame e env) (fun _ s₂ => wpAny (model prog w) A (setFlight e none) (fun _ s₃ => wpAny (model prog w) A (handleBy e env (c₀ :: cs)) Q E s₃) E s₂) E s₁) s) :
    wpG (model prog w) A (exec (.Try body (c₀ :: cs) orelse [] pos) env) Q E s := by
  rw [arm_exec_Try]
  refine wpG_bind (wpG_standAt ?_)
  unfold tryStmt
  simp only [List.isEmpty_nil, if_true, List.isEmpty_cons, Bool.false_and, Bool.false_eq_true, if_false]
  refine wpG_bind (wpG_attempt (wpG_mono h (fun f s₁ h₁ => ?_) fun e s₁ h₁ => ?_))
  · cases f <;> first | exact h₁ | exact wpG_pure h₁
  · exact wpG_of (wpAny_bind (wpAny_mono h₁ (fun _ _ h₂ => wpAny_bind h₂) fun _ _ x => x))
end
section
variable {prog : Program} {w : World} {A₀ A : Around} {s : Shared} {base h₀ : Heap} {L : Addr} {m mg mb : Str → Option Value} {env : Env} {news : List (Addr × Obj)} {K : Frag} {p : Program} {loose : List Str} {mean : ExcName → Option Value}
  {R : Result → Shared → Prop} {name qual : Str} {params : Arguments} {body : List Stmt} {scope : Scope} {dV kV doc pm cdv ct oc : Value} {an od : Option Addr} {osl : Array (Option Value)} {f : Addr} {args : Args} {binds : List (Str × Value)}
/-- a def that catches, entered from the outermost frame, in clean contexts -/
theorem defGS (B : Below A₀ base [] h₀) (F : Fr h₀ L s.heap m) (X₀ : K.In h₀) (N : News h₀ L s.heap news) (T : Top p loose mean mg mb h₀) (hA : A.frames = some [env]) (hf : env.frame = some L) (hke : env.scope.kind = .function)
    (ho : K.lookup f = some ⟨oc, od, .func (fnOf name qual params body scope dV kV doc pm an cdv ct), osl⟩) (hcd : codeIn K cdv qual = true) (hroom : A.depth < recursionLimit)
    (hbind : BindsTo s (fnOf name qual params body scope dV kV doc pm an cdv ct) args binds) (hloc : ∀ y ∈ binds, scope.names.lookup y.1 = some .local)
    (h : ∀ g L' h₁, Fr h₀ L g m → Fr g L' h₁ (fun y => binds.reverse.lookup y) → News g L' h₁ news → Below A base [env] g → K.In g → Top p loose mean mg mb g → KtsDicts ([env].filterMap (·.frame)) g → (∀ p ∈ news, p.1 < L') →
      wpG (model prog w) (A.deeper (envOf qual scope L' f cdv)) (execs body (envOf qual scope L' f cdv))
        (fun fl s' => LeaveS0 ([env].filterMap (·.frame)) h₀ L m g R (match fl with | .ret v => v | _ => .none) s')
        (fun e s' => wpAny (model prog w) (A.deeper (envOf qual scope L' f cdv)) (leaving (envOf qual scope L' f cdv) e) (fun _ s'' => R (.error e) s'') (fun e' s'' => R (.error e') s'') s')
        { s with heap := h₁, toks := s.toks + binds.length })
    (hcell : ∀ x ∈ scope.names, x.2 ≠ .cell) (hco : scope.isCoroutine = false := by rfl) (hgen : scope.isGenerator = false := by rfl) (hk : scope.kind = .function := by rfl) : codeG (model prog w) A (.call (.ref f) args) R s := by
  obtain ⟨FG, BG, st, _⟩ := groundX (R := R) B F N hA hf hke
  have efs : [env].filterMap (·.frame) = [L] := by simp [hf]
  obtain ⟨oL, es, ep, hLg, hLd, hLk, hLf⟩ := FG.ns
  refine callFnG (fd := fnOf name qual params body scope dV kV doc pm an cdv ct) hroom (F.keep _ _ (X₀ _ _ ho)) rfl hco hgen rfl ((codeRec_of X₀ hcd).keeps F.keep) (hbind _ _ _ _ ?_)
  refine wpAny_newFunctionEnv hcell hloc (fun h₁ hns hsb => ?_) hk
  have hk₁ : ∀ b o, s.heap.get? b = some o → h₁.get? b = some o := fun b o e => hsb.extBut b o (Nat.ne_of_lt (Heap.lt_size e)) (Heap.get?_push_of_some _ e)
  refine ⟨(T.nolimit.keeps F.keep).keeps hk₁, funcG ?_⟩
  refine wpG_mono (h _ s.heap.objs.size h₁ FG ⟨hns, fun b o e => hk₁ b o (of_hideAll _ e), Nat.le_of_eq (hideAll_size _ _)⟩
    (fun p hp => ⟨hk₁ _ _ (N p hp).1, Nat.ne_of_lt (Heap.lt_size (N p hp).1), hideAll_none _ (List.mem_map_of_mem hp)⟩) BG (X₀.keeps st) (T.keeps st) (fun b hb => ?_) (fun p hp => Heap.lt_size (N p hp).1)) (fun fl s' hl => ?_) fun _ _ y => y
  · rw [efs] at hb
    rw [List.mem_singleton.mp hb]
    exact ⟨oL, es, ep, hLg, hLd⟩
  obtain ⟨g', L', m', news', T', F', N', k⟩ := hl
  rw [efs] at T'
  have nL₀ : h₀.get? L = none := kts_self F
  obtain ⟨sl, hs⟩ := T'.up hLg
  refine k ⟨⟨_, es, ep, F'.keep _ _ hs, hLd, hLk, hLf⟩, fun b o e => F'.keep b o (T'.other b o (st b o e) (fun q => by
    rw [List.mem_singleton.mp q, nL₀] at e
    cases e)), F.above⟩ fun p hp => ⟨(N' p hp).1, fun q => ?_, ?_⟩
  · have := (N' p hp).2.2; rw [q, hs] at this; cases this
  · cases q : h₀.get? p.1 with
    | none => rfl
    | some o =>
      obtain ⟨sl', hs'⟩ := T'.up (st _ _ q)
      have := (N' p hp).2.2
      rw [hs'] at this
      cases this
end
end Mine
end
section
open PySem PySem.W PySem.Calls PyProof.Rows
open Sem (wp)
set_option Elab.async false
set_option maxRecDepth 100000
namespace Mine
/-- the law's own def is entered, in clean contexts; it does not raise -/
theorem cellsG {prog : Program} {w : World} {A : Around} {R : Result → Shared → Prop} {s : Shared} {name : Str} {params : Arguments} {body : List Stmt} {scope : Scope}
    {pm cd doc : Value} {a : Addr} {o : Obj} {args : List Value} {binds : List (Str × Value)}
    (hroom : A.depth < recursionLimit) (ho : s.heap.get? a = some o) (hdata : o.data = .func (Calls.docDef name params body scope pm cd doc)) (hlim : s.heap.NoLimit) (hcd : s.heap.CodeRec cd name)
    (hbind : bindArgs (Calls.docDef name params body scope pm cd doc) ⟨args, []⟩ = pure binds)
    (hkind : ∀ x ∈ binds, scope.names.lookup x.1 = some .local ∨ (scope.names.lookup x.1 = some .cell ∧ ((cellsFrom (s.heap.objs.size + 1) scope.names []).lookup x.1).isSome = true))
    (hnd : ((cellsFrom 0 scope.names []).map (·.1)).Nodup)
    (h : ∀ h₁ tk cells, Fr s.heap s.heap.objs.size h₁ (bindL (envOfC name scope s.heap.objs.size a cd).kindOf binds fun _ => none) → News s.heap s.heap.objs.size h₁ cells →
      CellsAre (bindC (envOfC name scope s.heap.objs.size a cd).kindOf binds fun _ => none) (cellsFrom (s.heap.objs.size + 1) scope.names []) cells →
      wpG (model prog w) (A.deeper (envOfC name scope s.heap.objs.size a cd)) (execs body (envOfC name scope s.heap.objs.size a cd))
        (fun f s' => R (.ok (.ret (match f with | .ret v => v | _ => .none))) s') (fun _ _ => False) { s with heap := h₁, toks := tk })
    (hco : scope.isCoroutine = false := by rfl) (hgen : scope.isGenerator = false := by rfl) (hk : scope.kind = .function := by rfl) :
    codeG (model prog w) A (.call (.ref a) ⟨args, []⟩) R s := by
  refine callFnG (fd := Calls.docDef name params body scope pm cd doc) hroom ho hdata hco hgen rfl hcd (wpAny_of_eq hbind ?_)
  refine wpAny_newFunctionEnv_cells hk hkind fun env' he s' x => ?_
  subst he
  refine ⟨hlim.keeps x.toInCall.keep, funcG ?_⟩
  obtain ⟨h₁, tk, rfl, _⟩ := x.done
  obtain ⟨cells, NC, Y⟩ := Cl.news (h₀ := s.heap) (Nat.le_refl _) fun n c hm => ⟨x.cell n c (lookup_of_mem_nodup (cellsFrom_names scope.names 0 (s.heap.objs.size + 1) [] [] rfl ▸ hnd) hm), x.above n c hm⟩
  exact wpG_mono (h h₁ tk cells ⟨x.toInCall.ns, x.toInCall.keep, x.toInCall.fresh⟩ NC Y) (fun _ _ q => q) fun _ _ e => e.elim
theorem enterG {M : Model} {A : Around} {s : Shared} {f : Value} {pos : List Value} {kw : List (Str × Value)} {c : ClaimW} {cl : Str → Option Addr} {mean : ExcName → Option Value} {args : List WData} {s₁ : Shared}
    (h : codeG M A (.call f ⟨pos, kw⟩) (GoodWG c cl mean args s₁) s) : wpG M A (PySem.call f pos kw) (fun v s' => GoodWG c cl mean args s₁ (.ok (.ret v)) s') (fun e s' => GoodWG c cl mean args s₁ (.error e) s') s :=
  wpG_call (codeG_mono h fun res s' g => by rcases g.1 with ⟨v, _, _, rfl, _⟩ | ⟨e, _, _, rfl, _⟩ <;> exact g)
end Mine
end
section
open PySem PySem.W PySem.Calls PyProof.Rows
open Sem (wp)
set_option Elab.async false
set_option maxRecDepth 100000
namespace Mine

/-- a bytearray as the model lays it -/
noncomputable abbrev baObj (b : Array UInt8) : Obj := { cls := .type "bytearray", data := .bytearray b }

namespace BF
theorem mro : mroOf (.type "bytearray") = pure [.type "bytearray", .type "object"] := by rw [mroOf_type]; kernel_rfl
theorem lookup_new : typeLookup (.type "bytearray") "__new__" = pure (some (.builtin "bytearray.__new__")) := by rw [typeLookup_type, builtinLookup_eq_fast]; kernel_rfl
theorem slot_init : Slot "bytearray" "__init__" "bytearray.__init__" :=
  .of (owner := "bytearray") (n := "__init__") (by rw [typeLookup_type, builtinLookup_eq_fast]; kernel_rfl) (by decide +kernel) (by decide +kernel) (by decide +kernel)
    (by first | exact .inl (by decide +kernel) | exact .inr (by decide +kernel)) (by rw [isSubtype_type]; kernel_rfl)
theorem sub_self : isSubtype (.type "bytearray") (.type "bytearray") = pure true := by rw [isSubtype_type]; kernel_rfl
theorem called : TypeCalled "bytearray" "bytearray.__new__" "bytearray.__init__" :=
  ⟨by decide +kernel, by decide +kernel, ⟨_, _, mro⟩, madeBy_type mro lookup_new (by decide +kernel), by decide +kernel, sub_self, slot_init⟩
theorem typeCall_0 : checkTypeCall "bytearray" ⟨[], []⟩ = pure () := by kernel_rfl
theorem typeCall_1 (a : Value) : checkTypeCall "bytearray" ⟨[a], []⟩ = pure () := by kernel_rfl
theorem newCall_0 : checkBuiltinCall "bytearray.__new__" ⟨[.type "bytearray"], []⟩ = pure () := by kernel_rfl
theorem newCall_1 (a : Value) : checkBuiltinCall "bytearray.__new__" ⟨[.type "bytearray", a], []⟩ = pure () := by kernel_rfl
theorem entry_new : entryFor table "bytearray.__new__" = some Builtin.«list.__new__» :=
  entryFor_alias (id' := "list.__new__") (by kernel_rfl) (by first | rfl | decide +kernel) (by decide +kernel) (by kernel_rfl)
theorem plain_new : plainId "bytearray.__new__" = true := by decide +kernel
theorem entry_init : entryFor table "bytearray.__init__" = some Builtin.«bytearray.__init__» := entryFor_of_tree (by kernel_rfl)
theorem lookup_release : typeLookup (.type "bytearray") "__release_buffer__" = pure (some (.builtin "bytearray.__release_buffer__")) := by rw [typeLookup_type, builtinLookup_eq_fast]; kernel_rfl
theorem bind_0 : Builtin.Bytes.bindOptional "bytearray.__init__" "bytearray" ["source", "encoding", "errors"] [] [] = pure [none, none, none] := by kernel_rfl
theorem bind_1 (v : Value) : Builtin.Bytes.bindOptional "bytearray.__init__" "bytearray" ["source", "encoding", "errors"] [v] [] = pure [some v, none, none] := by kernel_rfl
theorem args_init_0 (a : Value) : argsOk "bytearray.__init__" ⟨[a], []⟩ := by unfold argsOk; kernel_rfl
theorem args_init_1 (a b : Value) : argsOk "bytearray.__init__" ⟨[a, b], []⟩ := by unfold argsOk; kernel_rfl
set_option maxHeartbeats 4000000 in
set_option maxRecDepth 1000000 in
theorem owner_new : ("bytearray.__new__".splitOn ".__new__").headD "" = "bytearray" := by simp +decide [String.splitOn, String.splitOnAux]
theorem ends_release : "bytearray.__release_buffer__".endsWith ("." ++ "__release_buffer__") = true := by decide +kernel
theorem drop_release : (("bytearray.__release_buffer__".dropRight ("__release_buffer__".length + 1))) = "bytearray" := by decide +kernel
end BF
end Mine
end
section
open PySem PySem.W PySem.Calls PyProof.Rows
open Sem (wp)
set_option Elab.async false
set_option maxRecDepth 100000
namespace Mine
section
variable {prog : Program} {w : World} {A : Around} {E : Value → Shared → Prop} {s : Shared}

theorem ba_new {args : List Value} (hargs : args = [] ∨ ∃ a, args = [a]) {Q₁ : Value → Shared → Prop}
    (h : Q₁ (.ref s.heap.objs.size) { s with heap := s.heap.push (baObj #[]) }) :
    codeAny (model prog w) A (.call (.builtin "bytearray.__new__") ⟨.type "bytearray" :: args, []⟩) (wants Q₁ E) s := by
  refine codeAny_of_tree ?_
  show wpAny _ A.in1 (do checkBuiltinCall "bytearray.__new__" ⟨.type "bytearray" :: args, []⟩; again (.builtin "bytearray.__new__" ⟨.type "bytearray" :: args, []⟩)) _ _ s
  refine wpAny_bind (wpAny_of_eq (a := ()) ?_ (wpAny_pure ⟨plainId_quiet BF.plain_new _, codeAny_builtin_stack BF.entry_new rfl fun p st => ?_⟩))
  · rcases hargs with rfl | ⟨a, rfl⟩
    · exact BF.newCall_0
    · exact BF.newCall_1 a
  rw [Around.under_plainId BF.plain_new _]
  have hsub := BF.sub_self
  have hown := BF.owner_new
  obtain ⟨hp, g, d, tk, os⟩ := s
  simp only [hown]
  wp_walk
  exact h
end

section
variable {prog : Program} {w : World} {A : Around} {E : Value → Shared → Prop} {h : Heap} {g : Array GenState} {d : Drawn} {t : Nat} {os : OsState}

theorem ba_release {self : Value} {Q : Bool → Shared → Prop} (hT : (⟨h, g, d, t, os⟩ : Shared).TypeIs self "bytearray") (hq : Q false ⟨h, g, d, t, os⟩) :
    wpAny (model prog w) A (Builtin.Bytes.ownRelease self) Q E ⟨h, g, d, t, os⟩ := by
  have h1 := BF.lookup_release
  have h2 := BF.ends_release
  have h3 := BF.drop_release
  have h4 := BF.sub_self
  unfold Builtin.Bytes.ownRelease Builtin.Bytes.slotIsOwn
  refine wpAny_bind (wpAny_bind (wpAny_specialOf (r := some (.builtin "bytearray.__release_buffer__")) hT h1 ?_))
  dsimp only
  rw [h2, h3]
  simp only [Bool.not_true, Bool.false_eq_true, if_false]
  refine wpAny_isInstance hT h4 ?_
  exact wpAny_pure hq

theorem ba_write {self : Addr} {b : Array UInt8} {f : Array UInt8 → Array UInt8} {Q : Unit → Shared → Prop} {M : Model} (hS : h.get? self = some (baObj b)) (hz : (f b).size ≤ sizeLine)
    (hq : ∀ h', h'.get? self = some (baObj (f b)) → Heap.SameBut self h h' → Q () ⟨h', g, d, t, os⟩) : wpAny M A (Builtin.Bytes.write (.ref self) f) Q E ⟨h, g, d, t, os⟩ := by
  show wpAny _ _ (updateBytearray self f) _ _ _
  unfold updateBytearray
  refine wpAny_bind (wpAny_load hS ?_)
  show wpAny _ _ (update self (Obj.mapBytearray f) >>= fun _ => lookBehind self) _ _ _
  refine wpAny_bind (wpAny_update hS ?_)
  have hS₂ : (h.update self (Obj.mapBytearray f)).get? self = some (baObj (f b)) := Heap.get?_update_self (Obj.mapBytearray f) hS rfl
  refine wpAny_lookBehind hS₂ ?_ (hq _ hS₂ (Heap.SameBut.update ..))
  show (if (f b).size > sizeLine then some "bytearray:memory" else none) = none
  rw [if_neg (Nat.not_lt.mpr hz)]
theorem ints_good : ∀ {vs : List Value} {ns : List Int}, IntsAre vs ns → (∀ n ∈ ns, 0 ≤ n ∧ n < 256) →
    (vs.takeWhile fun | .int i _ => decide (0 ≤ i) && decide (i < 256) | _ => false) = vs ∧ (vs.filterMap fun | .int i _ => some i.toNat.toUInt8 | _ => none) = ns.map fun n => n.toNat.toUInt8
  | _, _, .nil, _ => ⟨rfl, rfl⟩
  | _, _, .cons _ _ r, h => by
    obtain ⟨a, b⟩ := ints_good r fun n hn => h n (List.mem_cons_of_mem _ hn)
    have := h _ List.mem_cons_self
    refine ⟨?_, ?_⟩
    · rw [List.takeWhile_cons]
      simp only [this, decide_true, Bool.and_self, if_true]
      rw [a]
    · rw [List.filterMap_cons, List.map_cons, b]

/-- what __init__ does with no source, and with a list of ints that are octets -/
theorem ba_init {self : Addr} {pos : List Value} {Q : Fin → Shared → Prop} (hS : h.get? self = some (baObj #[])) (b : Array UInt8)
    (hsrc : (pos = [] ∧ b = #[]) ∨ ∃ l vs ns, pos = [.ref l] ∧ h.IsList l (vs : List Value).toArray ∧ IntsAre vs ns ∧ (∀ n ∈ ns, 0 ≤ n ∧ n < 256) ∧ b = byteArr ns ∧ ns.length ≤ sizeLine ∧ self ≠ l)
    (hq : ∀ h', h'.get? self = some (baObj b) → Heap.SameBut self h h' → Q (.done (.ret .none)) ⟨h', g, d, t, os⟩) :
    wpG (model prog w) A (Builtin.«bytearray.__init__» ⟨.ref self :: pos, []⟩) Q E ⟨h, g, d, t, os⟩ := by
  have hT : (⟨h, g, d, t, os⟩ : Shared).TypeIs (.ref self) "bytearray" := ⟨_, hS, rfl⟩
  unfold Builtin.«bytearray.__init__»
  dsimp only
  refine wpG_bindA (ba_release hT ?_)
  simp only [Bool.false_eq_true, if_false]
  obtain ⟨o, hbind, hsrc⟩ : ∃ o : Option Value, Builtin.Bytes.bindOptional "bytearray.__init__" "bytearray" ["source", "encoding", "errors"] pos [] = pure [o, none, none] ∧ ((o = none ∧ b = #[]) ∨ ∃ l vs ns, o = some (.ref l) ∧ h.IsList l (vs : List Value).toArray ∧ IntsAre vs ns ∧ (∀ n ∈ ns, 0 ≤ n ∧ n < 256) ∧ b = byteArr ns ∧ ns.length ≤ sizeLine ∧ self ≠ l) := by
    rcases hsrc with ⟨rfl, e⟩ | ⟨l, vs, ns, rfl, r⟩
    · exact ⟨none, BF.bind_0, .inl ⟨rfl, e⟩⟩
    · exact ⟨some (.ref l), BF.bind_1 _, .inr ⟨l, vs, ns, rfl, r⟩⟩
  refine wpG_bindA (wpAny_of_eq hbind ?_)
  clear hbind
  dsimp only
  refine wpG_bindA (wpAny_of_eq (a := ()) rfl ?_)
  refine wpG_bindA (wpAny_of_eq (a := ()) rfl ?_)
  refine wpG_bind ?_
  unfold orM
  refine wpG_bind (exported_false ?_)
  dsimp only [toBool]
  refine wpG_of ?_
  wp_walk
  rw [if_neg (by decide)]
  refine wpG_bindA (ba_write hS (Nat.zero_le _) fun h' h1 h2 => ?_)
  refine wpG_of ?_
  rcases hsrc with ⟨rfl, rfl⟩ | ⟨l, vs, ns, rfl, hl, hi, hr, rfl, hz, hne⟩
  · wp_walk
    exact hq h' h1 h2
  ·
    have hl' : h'.IsList l vs.toArray := hl.at fun o e => (h2.2 l (Ne.symm hne)).trans e
    have hTl : (⟨h', g, d, t, os⟩ : Shared).TypeIs (.ref l) "list" := Heap.IsList.typeIs (s := ⟨h', g, d, t, os⟩) hl'
    obtain ⟨⟨oc, od, dd, sl⟩, hol, hoc, nl, hod⟩ := id hl'
    dsimp only at hoc hod
    subst hoc hod
    have e1 := PySem.F.bm_no_index
    have e2 := PySem.F.bm_no_buffer
    wp_walk
    obtain ⟨ga, gb⟩ := ints_good hi hr
    generalize hG : List.takeWhile _ vs.toArray.toList = G
    have hG' : G = vs := hG.symm.trans ga
    subst hG'
    rw [show G.toArray[G.length]? = none from by simp]
    dsimp only
    generalize hB : List.filterMap _ G = B
    have hB' : B = ns.map fun n => n.toNat.toUInt8 := hB.symm.trans gb
    subst hB'
    refine wpAny_bind (wpAny_rule (wpAny_bind (ba_write h1 (by simpa [byteArr] using hz) fun h'' k1 k2 => ?_)))
    exact wpAny_pure (hq h'' k1 (h2.trans k2))
end
end Mine
end
section
open PySem PySem.W PySem.Calls PyProof.Rows
open Sem (wp)
set_option Elab.async false
set_option maxRecDepth 100000
namespace Mine
section
variable {prog : Program} {w : World} {A : Around} {E : Value → Shared → Prop} {R : Result → Shared → Prop} {s : Shared}
theorem builtinG {id : String} {args : Args} {b : Builtin} (hcl : cleanC (.builtin id args) = true) (hb : entryFor table id = some b)
    (h : wpG (model prog w) (A.under (.builtin id args)) (b args)
      (fun fin s' => match fin with | .done f => R (.ok f) s' | .again c' => c'.quiet = true ∧ codeG (model prog w) A c' R s') (fun e s' => R (.error e) s') s) :
    codeG (model prog w) A (.builtin id args) R s := by
  refine codeG_tree hcl ?_
  show wpG _ _ (match entryFor table id with | some b => b args | none => unsupported ((withoutEnding? id "#data").getD id)) _ _ s
  rw [hb]; exact h
theorem slotCallG {T name id : String} {b : Builtin} {self : Value} {rest : List Value} (hs : Slot T name id) (hT : s.TypeIs self T) (hcl : cleanC (.builtin id ⟨self :: rest, []⟩) = true)
    (hb : entryFor table id = some b) (ha : argsOk id ⟨self :: rest, []⟩)
    (h : wpG (model prog w) A.in1 (b ⟨self :: rest, []⟩) (fun fin s' => match fin with | .done f => R (.ok f) s' | .again c' => c'.quiet = true ∧ codeG (model prog w) A c' R s') (fun e s' => R (.error e) s') s) :
    codeG (model prog w) A (.call (.builtin id) ⟨self :: rest, []⟩) R s := by
  refine codeG_tree rfl ?_
  show wpG _ A.in1 (do checkBuiltinCall id ⟨self :: rest, []⟩; again (.builtin id ⟨self :: rest, []⟩)) _ _ s
  refine wpG_bindA (hs.check _ _ _ _ _ _ _ _ hT ha (wpG_pure ⟨plainId_quiet hs.plain _, builtinG hcl hb ?_⟩))
  rw [Around.under_plainId hs.plain _]
  exact h

theorem ba_call {pos : List Value} {Q : Value → Shared → Prop} (b : Array UInt8)
    (hsrc : (pos = [] ∧ b = #[]) ∨ ∃ l vs ns, pos = [.ref l] ∧ s.heap.IsList l (vs : List Value).toArray ∧ IntsAre vs ns ∧ (∀ n ∈ ns, 0 ≤ n ∧ n < 256) ∧ b = byteArr ns ∧ ns.length ≤ sizeLine)
    (hq : ∀ h' tk, h'.get? s.heap.objs.size = some (baObj b) → (∀ x o, s.heap.get? x = some o → h'.get? x = some o) → Q (.ref s.heap.objs.size) { s with heap := h', toks := tk }) :
    wpG (model prog w) A (call (.type "bytearray") pos) Q E s := by
  have hpos : pos = [] ∨ ∃ a, pos = [a] := hsrc.elim (fun h => .inl h.1) fun ⟨l, _, _, h, _⟩ => .inr ⟨_, h⟩
  have ft := BF.called
  obtain ⟨c, tl, hmro⟩ := ft.mro
  have hmade := ft.made
  have hsub := ft.sub
  have h1 := ft.notType
  have h2 := ft.canCreate
  have hct : checkTypeCall "bytearray" ⟨pos, []⟩ = pure () := by
    rcases hpos with rfl | ⟨a, rfl⟩
    · exact BF.typeCall_0
    · exact BF.typeCall_1 a
  refine wpG_call (codeG_tree rfl ?_)
  show wpG _ _ (callAny (.type "bytearray") _) _ _ _
  refine wpG_pure ⟨Code.quiet_builtin _ (by decide +kernel), builtinG rfl F.entry_type_call ?_⟩
  rw [Around.under_plain (weight_type_call_type "bytearray" pos []) rfl]
  unfold Builtin.«type.__call__»
  dsimp only
  rw [h1]
  simp only [Bool.false_eq_true, if_false]
  rw [if_neg (by rw [h2]; decide)]
  refine wpG_bindA (wpAny_of_eq hct ?_)
  refine wpG_bindA (wpAny_of_eq hmro ?_)
  rw [if_neg (by simp)]
  refine wpG_bindA (wpAny_of_eq hmade ?_)
  dsimp only
  refine wpG_bind (wpG_pure ?_)
  refine wpG_bindA (wpAny_holding (wpAny_call (codeAny_mono (ba_new hpos (Q₁ := fun v s' => v = .ref s.heap.objs.size ∧ s' = { s with heap := s.heap.push (baObj #[]) }) (E := fun _ _ => False) ⟨rfl, rfl⟩) fun r s' hr => ?_)))
  rcases r with e | (_ | _ | _ | obj)
  · exact hr.elim
  · exact hr.elim
  · exact hr.elim
  · exact hr.elim
  · obtain ⟨rfl, rfl⟩ := hr
    obtain ⟨h, g, d, tk, os⟩ := s
    have hS : (h.push (baObj #[])).get? h.objs.size = some (baObj #[]) := Heap.get?_push_size _ rfl
    have hT : (⟨h.push (baObj #[]), g, d, tk, os⟩ : Shared).TypeIs (.ref h.objs.size) "bytearray" := ⟨_, hS, rfl⟩
    refine wpG_bindA (wpAny_isInstance hT hsub ?_)
    simp only [Bool.not_true, Bool.false_eq_true, if_false]
    refine wpG_bind (wpG_holding ?_)
    unfold callSpecial?
    refine wpG_bindA (wpAny_specialOf hT ft.init.lookup ?_)
    dsimp only
    refine wpG_holding (wpG_bindA (wpAny_of_eq (ft.init.bind _) ?_))
    dsimp only
    have hsrc' : (pos = [] ∧ b = #[]) ∨ ∃ l vs ns, pos = [.ref l] ∧ (h.push (baObj #[])).IsList l (vs : List Value).toArray ∧ IntsAre vs ns ∧ (∀ n ∈ ns, 0 ≤ n ∧ n < 256) ∧ b = byteArr ns ∧ ns.length ≤ sizeLine ∧ h.objs.size ≠ l := by
      rcases hsrc with e | ⟨l, vs, ns, e1, e2, e3, e4, e5, e6⟩
      · exact .inl e
      · obtain ⟨o, ho, _⟩ := id e2
        exact .inr ⟨l, vs, ns, e1, e2.push _, e3, e4, e5, e6, fun q => by have := Heap.lt_size ho; rw [← q] at this; exact absurd this (Nat.lt_irrefl _)⟩
    have hargs : argsOk "bytearray.__init__" ⟨.ref h.objs.size :: pos, []⟩ := by
      rcases hpos with rfl | ⟨a, rfl⟩
      · exact BF.args_init_0 _
      · exact BF.args_init_1 _ _
    refine wpG_bind (wpG_call (slotCallG ft.init hT (by rfl) BF.entry_init hargs (ba_init hS b hsrc' fun h' k1 k2 => ?_)))
    refine wpG_pure (wpG_of ?_)
    dsimp only
    rw [if_neg (by decide)]
    refine wpAny_pure (hq h' tk k1 fun x o hx => ?_)
    exact k2.extBut x o (Nat.ne_of_lt (Heap.lt_size hx)) (Heap.get?_push_of_some _ hx)
end
end Mine
end
section
open PySem PySem.W PySem.Calls PyProof.Rows
open Sem (wp)
set_option Elab.async false
set_option maxRecDepth 100000
namespace Mine
/-- the bound method laid.append -/
noncomputable abbrev apObj (a : Addr) : Obj := { cls := .type "builtin_function_or_method", data := .fields #[.builtin "bytearray.append", .ref a] }
namespace BF
theorem slot_ga : Slot "bytearray" "__getattribute__" "bytearray.__getattribute__" :=
  .of (owner := "bytearray") (n := "__getattribute__") (by rw [typeLookup_type, builtinLookup_eq_fast]; kernel_rfl) (by decide +kernel) (by decide +kernel) (by decide +kernel)
    (by first | exact .inl (by decide +kernel) | exact .inr (by decide +kernel)) (by rw [isSubtype_type]; kernel_rfl)
theorem entry_ga : entryFor table "bytearray.__getattribute__" = some Builtin.«object.__getattribute__» :=
  entryFor_alias (id' := "object.__getattribute__") (by kernel_rfl) (by first | rfl | decide +kernel) (by decide +kernel) (by kernel_rfl)
theorem args_ga (a b : Value) : argsOk "bytearray.__getattribute__" ⟨[a, b], []⟩ := by unfold argsOk; kernel_rfl
theorem lookup_append : typeLookup (.type "bytearray") "append" = pure (some (.builtin "bytearray.append")) := by rw [typeLookup_type, builtinLookup_eq_fast]; kernel_rfl
theorem type_append : typeOf (.builtin "bytearray.append") = pure (.type "method_descriptor") := by show builtinType _ = _; rw [builtinType_eq_fast]; kernel_rfl
theorem slot_mdget : Slot "method_descriptor" "__get__" "method_descriptor.__get__" :=
  .of (owner := "method_descriptor") (n := "__get__") (by rw [typeLookup_type, builtinLookup_eq_fast]; kernel_rfl) (by decide +kernel) (by decide +kernel) (by decide +kernel)
    (by first | exact .inl (by decide +kernel) | exact .inr (by decide +kernel)) (by rw [isSubtype_type]; kernel_rfl)
theorem md_noset : typeLookup (.type "method_descriptor") "__set__" = pure none := by rw [typeLookup_type, builtinLookup_eq_fast]; kernel_rfl
theorem md_nodel : typeLookup (.type "method_descriptor") "__delete__" = pure none := by rw [typeLookup_type, builtinLookup_eq_fast]; kernel_rfl
theorem entry_mdget : entryFor table "method_descriptor.__get__" = some Builtin.«method_descriptor.__get__» := entryFor_of_tree (by kernel_rfl)
theorem args_mdget (a b c : Value) : argsOk "method_descriptor.__get__" ⟨[a, b, c], []⟩ := by unfold argsOk; kernel_rfl
theorem told_append : Manifest.toldItsClass.contains "bytearray.append" = false := by decide +kernel
theorem guard_append (a : Addr) : Builtin.ObjectAttr.copiedAttributeGuard "append" (.ref a) = pure () := by
  unfold Builtin.ObjectAttr.copiedAttributeGuard
  dsimp only
  rw [if_neg (by decide +kernel)]
end BF
section
variable {prog : Program} {w : World} {A : Around} {E : Value → Shared → Prop} {h : Heap} {g : Array GenState} {d : Drawn} {t : Nat} {os : OsState} {a : Addr} {b : Array UInt8}
theorem ap_get {Q : Fin → Shared → Prop} (hS : h.get? a = some (baObj b)) (hq : Q (.done (.ret (.ref h.objs.size))) ⟨h.push (apObj a), g, d, t, os⟩) :
    wpAny (model prog w) A (Builtin.«method_descriptor.__get__» ⟨[.builtin "bytearray.append", .ref a, .type "bytearray"], []⟩) Q E ⟨h, g, d, t, os⟩ := by
  have hT : (⟨h, g, d, t, os⟩ : Shared).TypeIs (.ref a) "bytearray" := ⟨_, hS, rfl⟩
  have h4 := BF.sub_self
  unfold Builtin.«method_descriptor.__get__»
  refine wpAny_bind (wpAny_of_eq (a := (.builtin "bytearray.append", some (.ref a), some (.type "bytearray"))) (by first | rfl | kernel_rfl) ?_)
  dsimp only
  rw [if_neg (by rw [BF.told_append]; decide)]
  refine wpAny_bind ?_
  refine wpAny_bind (wpAny_of_eq (a := (("append" : Str), .type "bytearray")) (by first | rfl | kernel_rfl) ?_)
  dsimp only
  refine wpAny_bind (wpAny_isInstance hT h4 ?_)
  simp only [Bool.not_true, Bool.false_eq_true, if_false]
  refine wpAny_pure ?_
  refine wpAny_bind (wpAny_newObj_type (wpAny_pure hq))
theorem ap_find {Q : Builtin.ObjectAttr.Found → Shared → Prop} (hS : h.get? a = some (baObj b)) (hq : Q (.bind (.builtin "method_descriptor.__get__") (.builtin "bytearray.append")) ⟨h, g, d, t, os⟩) :
    wpAny (model prog w) A (Builtin.ObjectAttr.find (.ref a) (.type "bytearray") "append") Q E ⟨h, g, d, t, os⟩ := by
  have f9 : (⟨h, g, d, t, os⟩ : Shared).TypeIs (.builtin "bytearray.append") "method_descriptor" := BF.type_append
  unfold Builtin.ObjectAttr.find
  refine wpAny_bind (wpAny_of_eq BF.lookup_append ?_)
  refine wpAny_bind (wpAny_specialOf f9 BF.slot_mdget.lookup ?_)
  refine wpAny_bind (wpAny_bind (wpAny_bind (wpAny_specialOf f9 BF.md_noset ?_)))
  rw [if_neg (by decide)]
  refine wpAny_bind (wpAny_specialOf f9 BF.md_nodel ?_)
  refine wpAny_pure ?_
  rw [if_neg (by decide)]
  refine wpAny_pure ?_
  dsimp only
  unfold Builtin.ObjectAttr.ownThenClass
  refine wpAny_bind ?_
  unfold Builtin.ObjectAttr.inOwnDict
  dsimp only
  unfold Builtin.ObjectAttr.ownDict
  refine wpAny_bind (wpAny_bind (wpAny_loadPart hS ?_))
  dsimp only
  unfold instanceDict
  refine wpAny_bind (wpAny_loadPart hS ?_)
  dsimp only
  rw [if_pos (by decide)]
  refine wpAny_pure (wpAny_pure ?_)
  dsimp only
  refine wpAny_bind (wpAny_of_eq (BF.guard_append a) ?_)
  refine wpAny_bind (wpAny_rule (wpAny_pure hq))
theorem ap_attr {Q : Value → Shared → Prop} (hS : h.get? a = some (baObj b)) (hq : Q (.ref h.objs.size) ⟨h.push (apObj a), g, d, t + 1, os⟩) :
    wpAny (model prog w) A (getAttr (.ref a) "append" true) Q E ⟨h, g, d, t, os⟩ := by
  have hT : (⟨h, g, d, t + 1, os⟩ : Shared).TypeIs (.ref a) "bytearray" := ⟨_, hS, rfl⟩
  have f2 := BF.slot_ga.lookup
  have f3 := BF.slot_ga.bind (.ref a)
  have f4 := BF.lookup_append
  have f5 := BF.type_append
  have f6 := BF.slot_mdget.lookup
  have f7 := BF.md_noset
  have f8 := BF.md_nodel
  have f9 : (⟨h, g, d, t + 1, os⟩ : Shared).TypeIs (.builtin "bytearray.append") "method_descriptor" := BF.type_append
  have f10 := BF.guard_append a
  unfold getAttr getAttrBy
  repeat (any_goals (first | assumption | wp_step))
  refine codeAny_call_builtin BF.slot_ga.plain BF.entry_ga (BF.slot_ga.check _ _ _ _ _ _ _ _ hT (BF.args_ga _ _) ?_)
  unfold Builtin.«object.__getattribute__»
  refine wpAny_bind (wpAny_of_eq (a := (.ref a, [.str "append" t])) rfl ?_)
  dsimp only
  refine wpAny_bind (wpAny_of_eq (a := ("append" : Str)) rfl ?_)
  refine wpAny_bind (wpAny_typeOf hT ?_)
  refine wpAny_bind (ap_find hS ?_)
  dsimp only
  unfold Builtin.ObjectAttr.bindTo
  dsimp only
  refine wpAny_bind (wpAny_holding (wpAny_call (codeAny_call_builtin BF.slot_mdget.plain BF.entry_mdget (BF.slot_mdget.check _ _ _ _ _ _ _ _ f9 (BF.args_mdget _ _ _) ?_))))
  refine ap_get hS ?_
  exact wpAny_pure (wpAny_pure hq)
end
end Mine
end
section
open PySem PySem.W PySem.Calls PyProof.Rows
open Sem (wp)
set_option Elab.async false
set_option maxRecDepth 100000
namespace Mine
namespace BF
theorem sub_module : isSubtype (.type "bytearray") (.type "module") = pure false := by rw [isSubtype_type]; kernel_rfl
theorem sub_type : isSubtype (.type "bytearray") (.type "type") = pure false := by rw [isSubtype_type]; kernel_rfl
theorem kind_append : builtinKind "bytearray.append" = some .method := by decide +kernel
theorem entry_append : entryFor table "bytearray.append" = some Builtin.«bytearray.append» := entryFor_of_tree (by kernel_rfl)
theorem plain_append : plainId "bytearray.append" = true := by decide +kernel
theorem var_append : Manifest.varargsMethods.contains "bytearray.append" = false := by decide +kernel
theorem sig_append : Manifest.signature? "bytearray.append" = some ⟨.oneArg, "bytearray.append", "append", .self, [⟨"item", .posOnly, true⟩]⟩ := by kernel_rfl
theorem clean_append {args : Args} : cleanC (.builtin "bytearray.append" args) = true := by show (!dirtyIds.contains "bytearray.append") = true; decide +kernel
end BF
section
variable {prog : Program} {w : World} {A : Around} {E : Value → Shared → Prop} {h : Heap} {g : Array GenState} {d : Drawn} {t : Nat} {os : OsState} {a m : Addr} {b : Array UInt8}
theorem ap_check {v : Value} {Q : Unit → Shared → Prop} (hS : h.get? a = some (baObj b)) (hq : Q () ⟨h, g, d, t, os⟩) :
    wpAny (model prog w) A (checkBoundCall "bytearray.append" ⟨[.ref a, v], []⟩) Q E ⟨h, g, d, t, os⟩ := by
  have hT : (⟨h, g, d, t, os⟩ : Shared).TypeIs (.ref a) "bytearray" := ⟨_, hS, rfl⟩
  unfold checkBoundCall
  rw [BF.sig_append]
  dsimp only
  rw [BF.kind_append]
  dsimp only
  rw [if_neg (by decide)]
  refine wpAny_bind (wpAny_isInstance hT BF.sub_module ?_)
  rw [BF.var_append]
  rw [if_neg (by decide)]
  unfold isType
  refine wpAny_bind (wpAny_bind (wpAny_loadPart hS (wpAny_pure ?_)))
  dsimp only
  rw [if_neg (by decide)]
  refine wpAny_bind (wpAny_typeOf hT ?_)
  dsimp only
  refine wpAny_of_eq (a := ()) ?_ hq
  rw [show Bind.lastOf "bytearray" = "bytearray" by decide +kernel, show Bind.lastOf "bytearray.append" = "append" by decide +kernel]
  first | rfl | kernel_rfl

/-- what «write» does with an octet -/
theorem ap_call {n : Int} {u : Tok} {s : Shared} {Q : Value → Shared → Prop} (hm : s.heap.get? m = some (apObj a)) (hS : s.heap.get? a = some (baObj b)) (h0 : 0 ≤ n) (h1 : n < 256) (hz : b.size < sizeLine)
    (hq : ∀ h', h'.get? a = some (baObj (b.push n.toNat.toUInt8)) → Heap.SameBut a s.heap h' → Q .none { s with heap := h' }) :
    wpG (model prog w) A (call (.ref m) [.int n u]) Q E s := by
  obtain ⟨h, g, d, t, os⟩ := s
  refine wpG_call (codeG_tree rfl ?_)
  show wpG _ A.in1 (callAny (.ref m) ⟨[.int n u], []⟩) _ _ _
  simp only [callAny]
  refine wpG_bindA (wpAny_load hm ?_)
  dsimp only
  rw [if_pos (by decide)]
  simp only [List.getElem?_toArray, List.getElem?_cons_zero, List.getElem?_cons_succ]
  rw [if_pos (by decide)]
  refine wpG_bindA (ap_check hS ?_)
  refine wpG_pure ⟨plainId_quiet BF.plain_append _, builtinG BF.clean_append BF.entry_append ?_⟩
  rw [Around.under_plainId BF.plain_append _]
  unfold Builtin.«bytearray.append»
  refine wpG_bindA (wpAny_of_eq (a := (.ref a, .int n u)) rfl ?_)
  dsimp only
  refine wpG_bindA ?_
  unfold Builtin.Bytes.byteValue
  refine wpAny_bind (wpAny_of_eq (rfl : asIndex (.int n u) = pure n) ?_)
  rw [if_neg (by simp only [Bool.or_eq_true, decide_eq_true_eq]; omega)]
  refine wpAny_pure ?_
  refine wpG_bind ?_
  unfold Builtin.Bytes.checkResize
  refine wpG_bind ?_
  unfold orM
  refine wpG_bind (exported_false ?_)
  dsimp only [toBool]
  refine wpG_of ?_
  unfold Builtin.Bytes.exportsOf
  refine wpAny_bind (wpAny_bind (wpAny_load hS (wpAny_pure (wpAny_pure ?_))))
  rw [if_neg (by decide)]
  refine wpG_pure (wpG_bindA (ba_write hS (by rw [Array.size_push]; omega) fun h' k1 k2 => ?_))
  exact wpG_pure (hq h' k1 k2)
end
end Mine
end
section
open PySem PySem.W PySem.Calls PyProof.Rows
open Sem (wp)
set_option Elab.async false
set_option maxRecDepth 100000
namespace Mine
namespace BF
theorem slot_getitem : Slot "bytearray" "__getitem__" "bytearray.__getitem__" :=
  .of (owner := "bytearray") (n := "__getitem__") (by rw [typeLookup_type, builtinLookup_eq_fast]; kernel_rfl) (by decide +kernel) (by decide +kernel) (by decide +kernel)
    (by first | exact .inl (by decide +kernel) | exact .inr (by decide +kernel)) (by rw [isSubtype_type]; kernel_rfl)
theorem entry_getitem : entryFor table "bytearray.__getitem__" = some Builtin.«bytearray.__getitem__» := entryFor_of_tree (by kernel_rfl)
theorem args_getitem (a b : Value) : argsOk "bytearray.__getitem__" ⟨[a, b], []⟩ := by unfold argsOk; kernel_rfl
theorem slot_iter : Slot "bytearray" "__iter__" "bytearray.__iter__" :=
  .of (owner := "bytearray") (n := "__iter__") (by rw [typeLookup_type, builtinLookup_eq_fast]; kernel_rfl) (by decide +kernel) (by decide +kernel) (by decide +kernel)
    (by first | exact .inl (by decide +kernel) | exact .inr (by decide +kernel)) (by rw [isSubtype_type]; kernel_rfl)
theorem entry_iter : entryFor table "bytearray.__iter__" = some Builtin.«bytearray.__iter__» := entryFor_of_tree (by kernel_rfl)
theorem args_iter (a : Value) : argsOk "bytearray.__iter__" ⟨[a], []⟩ := by unfold argsOk; kernel_rfl
theorem slot_next : Slot "bytearray_iterator" "__next__" "bytearray_iterator.__next__" :=
  .of (owner := "bytearray_iterator") (n := "__next__") (by rw [typeLookup_type, builtinLookup_eq_fast]; kernel_rfl) (by decide +kernel) (by decide +kernel) (by decide +kernel)
    (by first | exact .inl (by decide +kernel) | exact .inr (by decide +kernel)) (by rw [isSubtype_type]; kernel_rfl)
theorem entry_next : entryFor table "bytearray_iterator.__next__" = some Builtin.«bytearray_iterator.__next__» := entryFor_of_tree (by kernel_rfl)
theorem args_next (a : Value) : argsOk "bytearray_iterator.__next__" ⟨[a], []⟩ := by unfold argsOk; kernel_rfl
theorem slot_self : Slot "bytearray_iterator" "__iter__" "bytearray_iterator.__iter__" :=
  .of (owner := "bytearray_iterator") (n := "__iter__") (by rw [typeLookup_type, builtinLookup_eq_fast]; kernel_rfl) (by decide +kernel) (by decide +kernel) (by decide +kernel)
    (by first | exact .inl (by decide +kernel) | exact .inr (by decide +kernel)) (by rw [isSubtype_type]; kernel_rfl)
theorem entry_self : entryFor table "bytearray_iterator.__iter__" = some Builtin.«dict_keyiterator.__iter__» := entryFor_alias (id' := "dict_keyiterator.__iter__") (by kernel_rfl) rfl (by decide +kernel) (by kernel_rfl)
theorem args_self (a : Value) : argsOk "bytearray_iterator.__iter__" ⟨[a], []⟩ := by unfold argsOk; kernel_rfl
theorem slot_len : Slot "bytearray" "__len__" "bytearray.__len__" :=
  .of (owner := "bytearray") (n := "__len__") (by rw [typeLookup_type, builtinLookup_eq_fast]; kernel_rfl) (by decide +kernel) (by decide +kernel) (by decide +kernel)
    (by first | exact .inl (by decide +kernel) | exact .inr (by decide +kernel)) (by rw [isSubtype_type]; kernel_rfl)
theorem entry_len : entryFor table "bytearray.__len__" = some Builtin.«bytearray.__len__» := entryFor_of_tree (by kernel_rfl)
theorem args_len (a : Value) : argsOk "bytearray.__len__" ⟨[a], []⟩ := by unfold argsOk; kernel_rfl
end BF

/-- octets, as bytes or as a bytearray -/
inductive Buf (h : Heap) : Value → Array UInt8 → Prop
  | bytes (b : Array UInt8) (t : Tok) : Buf h (.bytes b t) b
  | ba {a : Addr} {b : Array UInt8} : h.get? a = some (baObj b) → Buf h (.ref a) b
theorem Buf.keeps {h h' : Heap} {v : Value} {b : Array UInt8} (x : Buf h v b) (k : ∀ a o, h.get? a = some o → h'.get? a = some o) : Buf h' v b := by
  cases x with
  | bytes => exact .bytes ..
  | ba e => exact .ba (k _ _ e)

section
variable {prog : Program} {w : World} {A : Around} {E : Value → Shared → Prop} {s : Shared} {b : Array UInt8} {v : Value}

theorem sub_index {M : Model} {k : Int} {u : Tok} {Q : Option Int → Shared → Prop} (h0 : 0 ≤ k) (h1 : k < 2 ^ 63) (hq : Q (some k) s) : wpAny M A (Builtin.Bytes.subscript? (.int k u)) Q E s := by
  unfold Builtin.Bytes.subscript?
  refine wpAny_bind (wpAny_specialOf (typeIs_int s k u) F.slot_int_index.lookup ?_)
  show wpAny M A (if (!Builtin.Bytes.fitsIndex k) = true then _ else pure (some k)) _ E s
  rw [show Builtin.Bytes.fitsIndex k = true by simp only [Builtin.Bytes.fitsIndex, Bool.and_eq_true, decide_eq_true_eq]; omega]
  exact wpAny_pure hq
theorem seqIndex_in {k : Int} {n : Nat} (h0 : 0 ≤ k) (h1 : k < n) : seqIndex? k n = some k.toNat := by
  have hn : ¬ k < 0 := by omega
  simp [seqIndex?, hn, h0, h1]
theorem seqIndex_over {k : Int} {n : Nat} (h0 : 0 ≤ k) (h1 : (n : Int) ≤ k) : seqIndex? k n = none := by
  have hn : ¬ k < 0 := by omega
  have h2 : ¬ k < n := by omega
  simp [seqIndex?, hn, h0, h2]

theorem buf_getItem {k : Int} {u : Tok} {c : UInt8} {Q : Value → Shared → Prop} (x : Buf s.heap v b) (h0 : 0 ≤ k) (h1 : k < 2 ^ 63) (hx : b[k.toNat]? = some c)
    (hq : Q (.int (c.toNat : Int) s.toks) { s with toks := s.toks + 1 }) : wpAny (model prog w) A (getItem v (.int k u)) Q E s := by
  have hlt : k.toNat < b.size := (Array.getElem?_eq_some_iff.mp hx).1
  have hi : (seqIndex? k b.size).bind (b[·]?) = some c := by rw [seqIndex_in h0 (by omega)]; exact hx
  cases x with
  | bytes b t =>
    unfold getItem
    refine wpAny_holding (wpAny_bind (wpAny_sequenceKey (T := "bytes") rfl (by decide) ?_))
    refine wpAny_bind (wpAny_callSpecial?_slot (name := Str.ofString "__getitem__") (T := "bytes") rfl FB.slot_bytes_getitem
      (wpAny_call_entry FB.slot_bytes_getitem rfl FB.entry_bytes_getitem ?_ (FB.args_bytes_getitem_2 _ _)))
    show wpAny _ _ (Builtin.Bytes.subscript? (.int k u) >>= _) _ _ s
    refine wpAny_bind (sub_index h0 h1 ?_)
    show wpAny _ _ (match (seqIndex? k b.size).bind (b[·]?) with | some x => retInt x.toNat | none => _) _ _ s
    rw [hi]
    exact wpAny_bind (wpAny_mkInt (wpAny_pure ⟨_, rfl, wpAny_pure hq⟩))
  | @ba a b e =>
    have hT : s.TypeIs (.ref a) "bytearray" := ⟨_, e, rfl⟩
    unfold getItem
    refine wpAny_holding (wpAny_bind (wpAny_sequenceKey hT (by decide) ?_))
    refine wpAny_bind (wpAny_callSpecial?_slot (name := Str.ofString "__getitem__") hT BF.slot_getitem
      (wpAny_call_entry BF.slot_getitem hT BF.entry_getitem ?_ (BF.args_getitem _ _)))
    show wpAny _ _ (Builtin.Bytes.subscript? (.int k u) >>= _) _ _ s
    refine wpAny_bind (sub_index h0 h1 ?_)
    refine wpAny_bind ?_
    unfold Builtin.Bytes.payload Builtin.Bytes.payload?
    refine wpAny_bind (wpAny_bind (wpAny_load e (wpAny_pure (wpAny_pure ?_))))
    show wpAny _ _ (match (seqIndex? k b.size).bind (b[·]?) with | some x => retInt x.toNat | none => _) _ _ s
    rw [hi]
    exact wpAny_bind (wpAny_mkInt (wpAny_pure ⟨_, rfl, wpAny_pure hq⟩))

theorem buf_out {k : Int} {u : Tok} {Q : Value → Shared → Prop} (hA : A.handled = none) (x : Buf s.heap v b) (h0 : 0 ≤ k) (h1 : k < 2 ^ 63) (hx : (b.size : Int) ≤ k)
    (hE : ∀ h' tk e, Heap.NewExc s.heap h' e "IndexError" → E (.ref e) { s with heap := h', toks := tk }) : wpAny (model prog w) A (getItem v (.int k u)) Q E s := by
  have hi : (seqIndex? k b.size).bind (b[·]?) = none := by rw [seqIndex_over h0 hx]; rfl
  cases x with
  | bytes b t =>
    unfold getItem
    refine wpAny_holding (wpAny_bind (wpAny_sequenceKey (T := "bytes") rfl (by decide) ?_))
    refine wpAny_bind (wpAny_callSpecial?_slot (name := Str.ofString "__getitem__") (T := "bytes") rfl FB.slot_bytes_getitem
      (wpAny_call_entry FB.slot_bytes_getitem rfl FB.entry_bytes_getitem ?_ (FB.args_bytes_getitem_2 _ _)))
    show wpAny _ _ (Builtin.Bytes.subscript? (.int k u) >>= _) _ _ s
    refine wpAny_bind (sub_index h0 h1 ?_)
    show wpAny _ _ (match (seqIndex? k b.size).bind (b[·]?) with | some x => retInt x.toNat | none => _) _ _ s
    rw [hi]
    first
      | exact wpAny_bind (wpAny_rule (by exact_raiseError plainExc_IndexError hA hE))
      | exact wpAny_bind (wpAny_rule (wpAny_bind (by exact_raiseError plainExc_IndexError hA hE)))
      | exact wpAny_bind (wpAny_bind (wpAny_rule (by exact_raiseError plainExc_IndexError hA hE)))
      | exact wpAny_rule (by exact_raiseError plainExc_IndexError hA hE)
  | @ba a b e =>
    have hT : s.TypeIs (.ref a) "bytearray" := ⟨_, e, rfl⟩
    unfold getItem
    refine wpAny_holding (wpAny_bind (wpAny_sequenceKey hT (by decide) ?_))
    refine wpAny_bind (wpAny_callSpecial?_slot (name := Str.ofString "__getitem__") hT BF.slot_getitem
      (wpAny_call_entry BF.slot_getitem hT BF.entry_getitem ?_ (BF.args_getitem _ _)))
    show wpAny _ _ (Builtin.Bytes.subscript? (.int k u) >>= _) _ _ s
    refine wpAny_bind (sub_index h0 h1 ?_)
    refine wpAny_bind ?_
    unfold Builtin.Bytes.payload Builtin.Bytes.payload?
    refine wpAny_bind (wpAny_bind (wpAny_load e (wpAny_pure (wpAny_pure ?_))))
    show wpAny _ _ (match (seqIndex? k b.size).bind (b[·]?) with | some x => retInt x.toNat | none => _) _ _ s
    rw [hi]
    first
      | exact wpAny_bind (wpAny_rule (by exact_raiseError plainExc_IndexError hA hE))
      | exact wpAny_bind (wpAny_rule (wpAny_bind (by exact_raiseError plainExc_IndexError hA hE)))
      | exact wpAny_bind (wpAny_bind (wpAny_rule (by exact_raiseError plainExc_IndexError hA hE)))
      | exact wpAny_rule (by exact_raiseError plainExc_IndexError hA hE)
theorem buf_tail {value slice : Expr} {i : Value} {Q : Value → Shared → Prop} (x : Buf s.heap v b) (hg : wpAny (model prog w) A (getItem v i) Q E s)
    (hs : subscripted slice false v i = operate [v, i] (getItem v i)) : wpAny (model prog w) A (subscriptTail value slice v i) Q E s := by
  cases x with
  | bytes b t => exact tail_any (T := "bytes") rfl FB.slot_bytes_getitem.lookup hg hs
  | ba e => exact tail_any (T := "bytearray") ⟨_, e, rfl⟩ BF.slot_getitem.lookup hg hs
theorem buf_len {Q : Value → Shared → Prop} (x : Buf s.heap v b) (hz : b.size ≤ sizeLine) (hq : ∀ t k, Q (.int b.size t) { s with toks := k }) : wpAny (model prog w) A (call (.builtin "len") [v]) Q E s := by
  rw [sizeLine_eq] at hz
  cases x with
  | bytes b t => exact len_bytes (by omega) (hq _ _)
  | @ba a b e =>
    have hT : s.TypeIs (.ref a) "bytearray" := ⟨_, e, rfl⟩
    refine call_len_slot (n := b.size) hT BF.slot_len (fun Q' hq' => wpAny_call_entry BF.slot_len hT BF.entry_len ?_ (BF.args_len _)) (by omega) (by omega) (hq _ _)
    show wpAny _ _ (Builtin.Bytes.payload (.ref a) >>= fun b => retInt b.size) _ _ _
    refine wpAny_bind ?_
    unfold Builtin.Bytes.payload Builtin.Bytes.payload?
    refine wpAny_bind (wpAny_bind (wpAny_load (s := { s with toks := s.toks }) e (wpAny_pure (wpAny_pure ?_))))
    exact wpAny_bind (wpAny_mkInt (wpAny_pure ⟨_, rfl, hq'⟩))
end
end Mine
end
section
open PySem PySem.W PySem.Calls PyProof.Rows
open Sem (wp)
set_option Elab.async false
set_option maxRecDepth 100000
namespace Mine
noncomputable abbrev baIter (a : Addr) (i : Nat) : Obj := { cls := .type "bytearray_iterator", data := .fields #[.ref a, .int i 0] }
noncomputable def IsBaIter (h : Heap) (it a : Addr) (i : Nat) : Prop := ∃ o, h.get? it = some o ∧ o.cls = .type "bytearray_iterator" ∧ o.data = .fields #[.ref a, .int i 0]
theorem IsBaIter.typeIs {s : Shared} {it a : Addr} {i : Nat} (y : IsBaIter s.heap it a i) : s.TypeIs (.ref it) "bytearray_iterator" := let ⟨o, ho, hc, _⟩ := y; ⟨o, ho, hc⟩
section
variable {prog : Program} {w : World} {A : Around} {E : Value → Shared → Prop} {s : Shared} {b : Array UInt8} {a it : Addr} {i : Nat}
theorem ba_pyIter {Q : Value → Shared → Prop} (hS : s.heap.get? a = some (baObj b)) (hQ : Q (.ref s.heap.objs.size) { s with heap := s.heap.push (baIter a 0) }) : wpAny (model prog w) A (pyIter (.ref a)) Q E s := by
  have hT : s.TypeIs (.ref a) "bytearray" := ⟨_, hS, rfl⟩
  refine wpAny_pyIter_slot hT BF.slot_iter (wpAny_call_entry BF.slot_iter hT BF.entry_iter ?_ (BF.args_iter _))
  show wpAny _ _ (do ret (← newFields "bytearray_iterator" [.ref a, rawInt 0])) _ _ s
  exact wpAny_bind (wpAny_newObj_type (wpAny_pure ⟨_, rfl, "bytearray_iterator", _, ⟨_, Heap.get?_push_size _ rfl, rfl⟩, BF.slot_next.lookup, hQ⟩))
theorem ba_pyIter_self {Q : Value → Shared → Prop} (hit : IsBaIter s.heap it a i) (h : Q (.ref it) s) : wpAny (model prog w) A (pyIter (.ref it)) Q E s := by
  refine wpAny_pyIter_slot hit.typeIs BF.slot_self (wpAny_call_entry BF.slot_self hit.typeIs BF.entry_self ?_ (BF.args_self _))
  show wpAny _ _ (ret (.ref it)) _ _ s
  exact wpAny_pure ⟨_, rfl, "bytearray_iterator", _, hit.typeIs, BF.slot_next.lookup, h⟩
theorem ba_next {c : UInt8} {Q : Option Value → Shared → Prop} (hit : IsBaIter s.heap it a i) (hS : s.heap.get? a = some (baObj b)) (hx : b[i]? = some c)
    (hQ : ∀ h', IsBaIter h' it a (i + 1) → Heap.SameBut it s.heap h' → Q (some (.int (c.toNat : Int) s.toks)) { s with heap := h', toks := s.toks + 1 }) : wpAny (model prog w) A (pyNext (.ref it)) Q E s := by
  obtain ⟨o, ho, hc, hd⟩ := id hit
  unfold pyNext
  refine wpAny_bind (wpAny_attempt (wpAny_callSpecial?_slot (name := Str.ofString "__next__") hit.typeIs BF.slot_next
    (wpAny_call_entry BF.slot_next hit.typeIs BF.entry_next ?_ (BF.args_next _))))
  show wpAny _ _ (field (.ref it) 0 >>= _) _ _ s
  refine wpAny_bind (wpAny_field ho hd (x := .ref a) rfl ?_)
  refine wpAny_bind (wpAny_load hS ?_)
  show wpAny _ _ (field (.ref it) 1 >>= _) _ _ s
  refine wpAny_bind (wpAny_field ho hd (x := .int i 0) rfl ?_)
  simp only [Int.toNat_natCast, hx]
  refine wpAny_bind (wpAny_setField ho hd (by simp) (wpAny_bind (wpAny_mkInt (wpAny_pure ⟨_, rfl, wpAny_pure (hQ _ ?_ (Heap.SameBut.update ..))⟩))))
  exact ⟨_, Heap.get?_update_self _ ho (Obj.isFreed_of_fields (Obj.data_mapFields hd _)), (Obj.cls_mapFields ..).trans hc, by
    rw [Obj.data_mapFields hd]; simp [rawInt]⟩
theorem ba_next_end {Q : Option Value → Shared → Prop} (hh : A.handled = none) (hit : IsBaIter s.heap it a i) (hS : s.heap.get? a = some (baObj b)) (hx : b[i]? = none)
    (hQ : ∀ h', Heap.ExtBut it s.heap h' → Q none { s with heap := h' }) : wpAny (model prog w) A (pyNext (.ref it)) Q E s := by
  obtain ⟨o, ho, hc, hd⟩ := id hit
  unfold pyNext
  refine wpAny_bind (wpAny_attempt (wpAny_callSpecial?_slot (name := Str.ofString "__next__") hit.typeIs BF.slot_next
    (wpAny_call_entry BF.slot_next hit.typeIs BF.entry_next ?_ (BF.args_next _))))
  show wpAny _ _ (field (.ref it) 0 >>= _) _ _ s
  refine wpAny_bind (wpAny_field ho hd (x := .ref a) rfl ?_)
  refine wpAny_bind (wpAny_load hS ?_)
  show wpAny _ _ (field (.ref it) 1 >>= _) _ _ s
  refine wpAny_bind (wpAny_field ho hd (x := .int i 0) rfl ?_)
  simp only [Int.toNat_natCast, hx]
  refine wpAny_bind (wpAny_rule (wpAny_bind (wpAny_setField ho hd (by simp) ?_)))
  refine wpAny_bind (wpAny_letGo ?_)
  show wpAny _ _ (newExc (.type "StopIteration") [] >>= _) _ _ _
  refine wpAny_bind ?_
  simp only [newExc, newTuple]
  refine wpAny_bind (wpAny_newObj_type ?_ (by size_fits))
  refine wpAny_bind (m := firstArgMember _ _) (wpAny_of_eq (a := Value.none) (by first | rfl | (simp only [firstArgMember]; rfl)) ?_)
  refine wpAny_newObj_type ?_ (by size_fits)
  simp only [raiseNew]
  refine wpAny_bind (wpAny_handled ?_)
  rw [show A.in1.handled = none from hh]
  refine wpAny_bind (wpAny_pure (wpAny_throw ?_))
  refine wpAny_bind (wpAny_isInstance (T := "StopIteration") (b := true) ⟨_, Heap.get?_push_size _ rfl, rfl⟩ isSubtype_stop ?_)
  exact wpAny_pure (hQ _ (((Heap.SameBut.update ..).extBut.push _).push _))
end
theorem baWalks {prog : Program} {w : World} {A : Around} (hh : A.handled = none) (I a : Addr) (hne : a ≠ I) (b : Array UInt8) :
    Walks prog w A I [I, a] [I] b.size (fun i v => ∃ c u, b[i]? = some c ∧ v = .int (c.toNat : Int) u) (fun i h => IsBaIter h I a i ∧ h.get? a = some (baObj b)) where
  sub := fun _ hb => by simp at hb; simp [hb]
  frame := fun _ _ _ st hk => ⟨let ⟨o, ho, r⟩ := st.1; ⟨o, hk I (by simp) o ho, r⟩, hk a (by simp) _ st.2⟩
  item := fun i s Q E hi st hQ => by
    refine ba_next st.1 st.2 (c := b[i]) (by simp [hi]) fun h' hit' hs' => ?_
    exact hQ _ h' (s.toks + 1) ⟨_, _, by simp [hi], rfl⟩ ⟨hit', (hs'.2 a hne).trans st.2⟩ fun b o hb e => hs'.extBut b o (fun h => hb (by simp [h])) e
  done := fun s Q E st hQ => ba_next_end hh st.1 st.2 (by simp) fun h' he' => hQ h' s.toks fun b o hb e => he' b o (fun h => hb (by simp [h])) e
  self := fun _ _ _ _ st hQ => ba_pyIter_self st.1 hQ

section
variable {prog : Program} {w : World} {A : Around} {E : Value → Shared → Prop} {s : Shared} {b : Array UInt8} {a : Addr}
theorem sub_ba_self : isSubtype (.type "bytearray") (.type "bytearray") = pure true := BF.sub_self
theorem extend_ba {R : Result → Shared → Prop} (hh : A.handled = none) (ha : s.heap.get? a = some (baObj b)) (S : Addr) (res : Value) (c₀ : Nat) (hS : s.heap.get? S = some { cls := .type "list", data := .seq #[] c₀ })
    (hR : ∀ h' tk acc' c', (∀ x o, x ≠ S → s.heap.get? x = some o → h'.get? x = some o) → h'.get? S = some { cls := .type "list", dict := none, data := .seq acc' c', slots := #[] } →
      ItemsOf (fun i v => ∃ c u, b[i]? = some c ∧ v = .int (c.toNat : Int) u) acc' b.size → R (.ok (.ret res)) { s with heap := h', toks := tk }) (hn : b.size ≤ sizeLine) :
    wpAny (model prog w) A.in1 (Builtin.List.listExtendWith (.ref S) (.ref a) res)
      (fun fin s' => match fin with | .done f => R (.ok f) s' | .again c' => c'.quiet = true ∧ codeAny (model prog w) A c' R s') (fun e s' => R (.error e) s') s := by
  have hT : s.TypeIs (.ref a) "bytearray" := ⟨_, ha, rfl⟩
  have hSa : S ≠ a := fun e => by rw [e, ha] at hS; simp at hS
  have hSI : S ≠ s.heap.objs.size := Nat.ne_of_lt (Heap.lt_size hS)
  have haI : a ≠ s.heap.objs.size := Nat.ne_of_lt (Heap.lt_size ha)
  have hSf : S ∉ [s.heap.objs.size, a] := fun hm => by
    rcases List.mem_cons.mp hm with e | e
    · exact hSI e
    · exact hSa (List.mem_singleton.mp e)
  unfold Builtin.List.listExtendWith
  refine wpAny_bind (wpAny_typeOf hT ?_)
  have h1 : Builtin.List.listSameRef (.ref S) (.ref a) = false := by simp [Builtin.List.listSameRef, hSa]
  have h2 : (Value.type "bytearray" == Value.type "list") = false := by decide
  have h3 : (Value.type "bytearray" == Value.type "tuple") = false := by decide
  simp only [h1, h2, h3, Bool.or_false, Bool.false_eq_true, if_false]
  refine wpAny_bind (ba_pyIter ha ?_)
  have ha₁ := Heap.get?_push_of_some (baIter a 0) ha
  have hT₁ : ({ s with heap := s.heap.push (baIter a 0) } : Shared).TypeIs (.ref a) "bytearray" := ⟨_, ha₁, rfl⟩
  refine wpAny_bind (wpAny_holding ?_)
  unfold Builtin.List.listLengthHint
  refine wpAny_bind (wpAny_specialOf hT₁ BF.slot_len.lookup ?_)
  generalize hid : ("bytearray.__len__" : String) = id0
  wp_delta
  rw [show splitId id0 = some ("bytearray", "__len__") from by subst hid; decide +kernel]
  refine wpAny_bind (wpAny_isInstance hT₁ BF.sub_self ?_)
  refine wpAny_ite_split (fun hab => absurd hab (by decide)) (fun _ => ?_)
  refine wpAny_ite_split (fun _ => ?_) (fun hab => absurd (by subst hid; decide +kernel) hab)
  refine wpAny_bind (wpAny_typeOf hT₁ ?_)
  refine wpAny_pure ?_
  rw [if_neg (by decide)]
  refine wpAny_pure ⟨plainId_quiet F.plain_extend_loop _, codeAny_extend_loopS (baWalks (A := A.in1) hh _ a haI b).toS hn _ hSf _ b.size 0 _ _ _ rfl (Nat.zero_le _)
    ⟨⟨_, Heap.get?_push_size _ rfl, rfl, rfl⟩, ha₁⟩ (Heap.get?_push_of_some _ hS) (ItemsOf.nil _) fun s' acc' c' hm hS' hacc => ?_⟩
  rw [Moved.eq_with hm]
  refine hR s'.heap s'.toks acc' c' (fun x ob hx e => hm.heap x ob (fun hmem => ?_) (Heap.get?_push_of_some _ e)) hS' hacc
  rcases List.mem_cons.mp hmem with e' | hmem
  · exact hx e'
  · exact absurd (Heap.lt_size e) (by rw [List.mem_singleton.mp hmem]; exact Nat.lt_irrefl _)

noncomputable def octs (b : Array UInt8) : List Int := b.toList.map fun c => (c.toNat : Int)
theorem octs_of_items {b : Array UInt8} {acc : Array Value} (h : ItemsOf (fun i v => ∃ c u, b[i]? = some c ∧ v = .int (c.toNat : Int) u) acc b.size) : IntsAre acc.toList (octs b) := by
  have key : ∀ (l : List PySem.Value) (k : List UInt8), l.length = k.length → (∀ (j : Nat) (v : PySem.Value), l[j]? = some v → ∃ (c : UInt8) (u : Tok), k[j]? = some c ∧ v = Value.int (c.toNat : Int) u) → IntsAre l (k.map fun c : UInt8 => (c.toNat : Int)) := by
    intro l
    induction l with
    | nil => intro k hk _; cases k with | nil => exact .nil | cons _ _ => cases hk
    | cons x l ih =>
      intro k hk hv
      cases k with
      | nil => cases hk
      | cons c k =>
        obtain ⟨c', u, e, rfl⟩ := hv 0 x rfl
        obtain rfl : c = c' := Option.some.inj e
        exact .cons _ _ (ih k (Nat.succ.inj hk) fun j v hj => hv (j + 1) v hj)
  refine key acc.toList b.toList (by simpa using h.1) fun j v hj => ?_
  obtain ⟨c, u, e, hv⟩ := h.2 j v (by simpa using hj)
  exact ⟨c, u, by simpa using e, hv⟩
/-- list(a bytearray) -/
theorem list_ba {Q : Value → Shared → Prop} (hh : A.handled = none) (ha : s.heap.get? a = some (baObj b)) (hn : b.size ≤ sizeLine)
    (hQ : ∀ h' tk acc' c', (∀ x o, s.heap.get? x = some o → h'.get? x = some o) → h'.get? s.heap.objs.size = some (listOf acc' c') → IntsAre acc'.toList (octs b) → Q (.ref s.heap.objs.size) { s with heap := h', toks := tk }) :
    wpAny (model prog w) A (call (.type "list") [.ref a]) Q E s := by
  refine callType_codes (Q₁ := fun obj s₁ => obj = .ref s.heap.objs.size ∧ s₁ = { s with heap := s.heap.push { cls := .type "list", data := .seq #[] } }) F.called_list (F.typeCall_list_1 _) F.entry_list_init
    (code_list_new _ ⟨rfl, rfl⟩) fun obj s₁ h₁ => ?_
  obtain ⟨rfl, rfl⟩ := h₁
  have hS : (s.heap.push { cls := .type "list", data := .seq #[] }).get? s.heap.objs.size = some { cls := .type "list", data := .seq #[] } := Heap.get?_push_size _ rfl
  have ha' := Heap.get?_push_of_some { cls := .type "list", data := .seq #[] } ha
  have haS : a ≠ s.heap.objs.size := Nat.ne_of_lt (Heap.lt_size ha)
  refine ⟨⟨_, hS, rfl⟩, F.args_list_init_2 _ _, ?_⟩
  show wpAny _ _ (do let old ← Builtin.List.listItems (.ref s.heap.objs.size); Builtin.List.listUpdate (.ref s.heap.objs.size) (fun _ => #[]); letGo old.toList.reverse; Builtin.List.listExtendWith (.ref s.heap.objs.size) (.ref a) .none) _ _ _
  refine wpAny_bind ?_
  unfold Builtin.List.listItems
  refine wpAny_bind (wpAny_seqItems hS rfl (wpAny_pure ?_))
  show wpAny _ _ (updateSeq s.heap.objs.size (fun _ => #[]) >>= fun _ => letGo (#[] : Array Value).toList.reverse >>= fun _ => Builtin.List.listExtendWith (.ref s.heap.objs.size) (.ref a) .none) _ _ _
  refine wpAny_bind (wpAny_updateSeq hS rfl ?_)
  have hS₂ := Heap.get?_update_self (Obj.mapSeq (fun _ => (#[] : Array Value))) hS rfl
  have oth : ∀ x o, x ≠ s.heap.objs.size → (s.heap.push { cls := .type "list", data := .seq #[] }).get? x = some o → ((s.heap.push { cls := .type "list", data := .seq #[] }).update s.heap.objs.size (Obj.mapSeq (fun _ => (#[] : Array Value)))).get? x = some o :=
    fun x o hx e => (Heap.get?_update_other _ _ (Ne.symm hx)).trans e
  refine wpAny_bind (wpAny_letGo ?_)
  refine extend_ba (A := A.in1) hh (oth a _ haS ha') s.heap.objs.size .none _ hS₂ (fun h' tk acc' c' hk hS' hacc => ⟨rfl, ?_⟩) hn
  exact hQ h' tk acc' c' (fun x o e => hk x o (Nat.ne_of_lt (Heap.lt_size e)) (oth x o (Nat.ne_of_lt (Heap.lt_size e)) (Heap.get?_push_of_some _ e))) hS' (octs_of_items hacc)
end
end Mine
end
section
open PySem PySem.W PySem.Calls PyProof.Rows
open Sem (wp)
set_option Elab.async false
set_option maxRecDepth 100000
namespace Mine
noncomputable def isIter (o : Obj) : Bool := match o.cls with
  | .type n => ["list_iterator", "range_iterator", "bytes_iterator", "bytearray_iterator", "list_reverseiterator"].contains n
  | _ => false
/-- no iterator among those made since -/
noncomputable def NoIter (c : Addr) (news : List (Addr × Obj)) : Prop := ∀ p ∈ news, isIter p.2 = false ∨ @LT.lt Nat _ p.1 c
structure Src (prog : Program) (w : World) (A : Around) (h₀ : Heap) (L c I : Addr) (fp wr : List Addr) (n : Nat) (P : Nat → Value → Prop) (St : Nat → Heap → Prop) : Prop where
  W : Walks prog w A I fp wr n P St
  off : L ∉ fp
  new : ∀ b ∈ wr, h₀.get? b = none
  low : ∀ b ∈ wr, @LE.le Nat _ c b
  live : ∀ i h, St i h → ∀ b ∈ wr, ∃ o, h.get? b = some o ∧ isIter o = true

theorem Src.offNews {prog : Program} {w : World} {A : Around} {h₀ h : Heap} {L c I : Addr} {fp wr : List Addr} {n i : Nat} {P : Nat → Value → Prop} {St : Nat → Heap → Prop} {news : List (Addr × Obj)}
    (S : Src prog w A h₀ L c I fp wr n P St) (hst : St i h) (N : News h₀ L h news) (hn : NoIter c news) : ∀ p ∈ news, p.1 ∉ wr := fun p hp hb => by
  obtain ⟨o, ho, hi⟩ := S.live _ _ hst _ hb
  have := (N p hp).1
  rw [ho] at this
  have e : o = p.2 := Option.some.inj this
  rw [e] at hi
  rcases hn p hp with q | q
  · rw [q] at hi; cases hi
  · exact absurd q (Nat.not_lt.mpr (S.low _ hb))

section
variable {prog : Program} {w : World} {A : Around} {s : Shared} {env : Env} {h₀ : Heap} {c I : Addr} {fp wr : List Addr} {n : Nat} {P : Nat → Value → Prop} {St : Nat → Heap → Prop} {m : Str → Option Value}
    {news : List (Addr × Obj)} {R : Result → Shared → Prop} {x : Str} {px : Pos} {body : List Stmt}

/-- what a turn must leave -/
noncomputable def Turn (c : Addr) (h₀ : Heap) (L : Addr) (own : List (Addr × Obj)) (J : (Str → Option Value) → List (Addr × Obj) → Prop) (s₁ : Shared) (Q : Flow → Shared → Prop) (f : Flow) (s₂ : Shared) : Prop := match f with
  | .next | .cont => ∃ h' tk m₂ news₂, s₂ = { s₁ with heap := h', toks := tk } ∧ Fr h₀ L h' m₂ ∧ News h₀ L h' (own ++ news₂) ∧ NoIter c news₂ ∧ J m₂ news₂
  | f => Q (match f with | .brk => .next | f => f) s₂

/-- the keeping of what stands, over the turn's own objects -/
theorem turn_next {i : Nat} {h₂ h₃ : Heap} {m₂ m₃ : Str → Option Value} (S : Src prog w A h₀ env.locals c I fp wr n P St) (hst : St i h₂) (F₂ : Fr h₀ env.locals h₂ m₂) (F₃ : Fr h₀ env.locals h₃ m₃) {news₂ : List (Addr × Obj)}
    (N₃ : News h₀ env.locals h₃ (ownOf h₀ fp h₂ ++ news₂)) : St i h₃ := by
  refine S.W.frame _ _ _ hst fun b hb o e₂ => ?_
  cases hn : h₀.get? b with
  | some o₀ =>
    have : o₀ = o := by have := F₂.keep b o₀ hn; rw [e₂] at this; exact (Option.some.inj this).symm
    exact this ▸ F₃.keep b o₀ hn
  | none => exact (N₃ _ (List.mem_append_left _ (mem_ownOf hb hn e₂))).1

theorem forLoop_my (S : Src prog w A h₀ env.locals c I fp wr n P St) (hx : env.kindOf x = some .local)
    (hp : (env.scope.kind == .class || (env.scope.kind == .module && env.locals != env.globals)) = false)
    (hst : St 0 s.heap) (F : Fr h₀ env.locals s.heap m) (N : News h₀ env.locals s.heap news) (hn : NoIter c news)
    (J : Nat → (Str → Option Value) → List (Addr × Obj) → Prop) (h0 : J 0 m news)
    (step : ∀ i v m₁ news₁ h tk own, i < n → P i v → J i m₁ news₁ → NoIter c news₁ → Fr h₀ env.locals h (fun y => if y = x then some v else m₁ y) →
      News h₀ env.locals h (own ++ news₁) → (∀ p ∈ own, p.1 ∈ fp) →
      wpAny (model prog w) A (execs body env) (Turn c h₀ env.locals own (J (i + 1)) s (fun f s' => R (.ok f) s')) (fun _ _ => False) { s with heap := h, toks := tk })
    (hR : ∀ h' tk m' news', Fr h₀ env.locals h' m' → News h₀ env.locals h' news' → NoIter c news' → J n m' news' → R (.ok .next) { s with heap := h', toks := tk }) :
    codeAny (model prog w) A (.forLoop (.Name x px) (.ref I) body [] env) R s := by
  have hLw : env.locals ∉ wr := fun h => S.off (S.W.sub _ h)
  have old : ∀ b o, h₀.get? b = some o → b ∉ wr := fun b o e hb => by rw [S.new b hb] at e; cases e
  refine codeAny_forLoop
    (fun k s' => ∃ h' tk m' news' i, s' = { s with heap := h', toks := tk } ∧ St i h' ∧ Fr h₀ env.locals h' m' ∧ News h₀ env.locals h' news' ∧ NoIter c news' ∧ J i m' news' ∧ i ≤ n ∧ k = n + 1 - i) ?_ (n + 1)
    ⟨s.heap, s.toks, m, news, 0, rfl, hst, F, N, hn, h0, Nat.zero_le _, rfl⟩
  rintro k s' ⟨h', tk, m', news', i, rfl, hst', F', N', hn', hJ, hi, rfl⟩
  have hnw' := S.offNews hst' N' hn'
  have next : ∀ h₁ : Heap, (∀ b o, b ∉ wr → h'.get? b = some o → h₁.get? b = some o) → Fr h₀ env.locals h₁ m' ∧ News h₀ env.locals h₁ news' := fun h₁ hk₁ =>
    ⟨⟨F'.ns.at' fun o e => hk₁ _ o hLw e, fun b o e => hk₁ b o (old b o e) (F'.keep b o e), F'.above⟩, fun p hp => ⟨hk₁ _ _ (hnw' p hp) (N' p hp).1, (N' p hp).2⟩⟩
  by_cases hlt : i < n
  · refine S.W.item i _ _ _ hlt hst' fun v h₁ tk₁ hP hst₁ hk₁ => ?_
    obtain ⟨F₁, N₁⟩ := next h₁ hk₁
    refine wpAny_assign_Name (wpAny_storeName_local hx F₁.ns (fun h₂ hn₂ hs₂ => ?_) hp)
    have F₂ := F₁.set hn₂ hs₂
    have Nown : News h₀ env.locals h₂ (ownOf h₀ fp h₂) := news_ownOf S.off
    have hst₂ : St (i + 1) h₂ := S.W.frame _ _ _ hst₁ fun b hb o e => (hs₂.2 b fun q => S.off (q ▸ hb)).trans e
    refine wpAny_mono (step i v m' news' h₂ _ (ownOf h₀ fp h₂) hlt hP hJ hn' F₂ (Nown.append (N₁.set hs₂)) ownOf_sub) (fun f s₃ h₃ => ?_) fun _ _ e => e.elim
    have go : (∃ h' tk m₂ news₂, s₃ = { s with heap := h', toks := tk } ∧ Fr h₀ env.locals h' m₂ ∧ News h₀ env.locals h' (ownOf h₀ fp h₂ ++ news₂) ∧ NoIter c news₂ ∧ J (i + 1) m₂ news₂) → ∃ k, k < n + 1 - i ∧
        ∃ h' tk m' news' j, s₃ = { s with heap := h', toks := tk } ∧ St j h' ∧ Fr h₀ env.locals h' m' ∧ News h₀ env.locals h' news' ∧ NoIter c news' ∧ J j m' news' ∧ j ≤ n ∧ k = n + 1 - j := by
      rintro ⟨h₃', tk₃, m₂, news₂, rfl, F₃, N₃, hn₃, hJ₃⟩
      exact ⟨n + 1 - (i + 1), by omega, h₃', tk₃, m₂, news₂, i + 1, rfl, turn_next S hst₂ F₂ F₃ N₃, F₃, fun p hp => N₃ p (List.mem_append_right _ hp), hn₃, hJ₃, hlt, rfl⟩
    cases f with
    | next => exact go h₃
    | cont => exact go h₃
    | brk => exact h₃
    | ret v => exact h₃
  · have hin : i = n := by omega
    subst hin
    refine S.W.done _ _ _ hst' fun h₁ tk₁ hk₁ => wpAny_execs_nil ?_
    obtain ⟨F₁, N₁⟩ := next h₁ hk₁
    exact hR h₁ tk₁ m' news' F₁ N₁ hn' hJ

theorem forLoop_myG (S : Src prog w A h₀ env.locals c I fp wr n P St) (hx : env.kindOf x = some .local)
    (hp : (env.scope.kind == .class || (env.scope.kind == .module && env.locals != env.globals)) = false)
    (hst : St 0 s.heap) (F : Fr h₀ env.locals s.heap m) (N : News h₀ env.locals s.heap news) (hn : NoIter c news)
    (J : Nat → (Str → Option Value) → List (Addr × Obj) → Prop) (h0 : J 0 m news)
    (step : ∀ i v m₁ news₁ h tk own, i < n → P i v → J i m₁ news₁ → NoIter c news₁ → Fr h₀ env.locals h (fun y => if y = x then some v else m₁ y) →
      News h₀ env.locals h (own ++ news₁) → (∀ p ∈ own, p.1 ∈ fp) →
      wpG (model prog w) A (execs body env) (Turn c h₀ env.locals own (J (i + 1)) s (fun f s' => R (.ok f) s')) (fun _ _ => False) { s with heap := h, toks := tk })
    (hR : ∀ h' tk m' news', Fr h₀ env.locals h' m' → News h₀ env.locals h' news' → NoIter c news' → J n m' news' → R (.ok .next) { s with heap := h', toks := tk }) :
    codeG (model prog w) A (.forLoop (.Name x px) (.ref I) body [] env) R s := by
  have hLw : env.locals ∉ wr := fun h => S.off (S.W.sub _ h)
  have old : ∀ b o, h₀.get? b = some o → b ∉ wr := fun b o e hb => by rw [S.new b hb] at e; cases e
  refine forLoopG
    (fun k s' => ∃ h' tk m' news' i, s' = { s with heap := h', toks := tk } ∧ St i h' ∧ Fr h₀ env.locals h' m' ∧ News h₀ env.locals h' news' ∧ NoIter c news' ∧ J i m' news' ∧ i ≤ n ∧ k = n + 1 - i) ?_ (n + 1)
    ⟨s.heap, s.toks, m, news, 0, rfl, hst, F, N, hn, h0, Nat.zero_le _, rfl⟩
  rintro k s' ⟨h', tk, m', news', i, rfl, hst', F', N', hn', hJ, hi, rfl⟩
  have hnw' := S.offNews hst' N' hn'
  have next : ∀ h₁ : Heap, (∀ b o, b ∉ wr → h'.get? b = some o → h₁.get? b = some o) → Fr h₀ env.locals h₁ m' ∧ News h₀ env.locals h₁ news' := fun h₁ hk₁ =>
    ⟨⟨F'.ns.at' fun o e => hk₁ _ o hLw e, fun b o e => hk₁ b o (old b o e) (F'.keep b o e), F'.above⟩, fun p hp => ⟨hk₁ _ _ (hnw' p hp) (N' p hp).1, (N' p hp).2⟩⟩
  by_cases hlt : i < n
  · refine S.W.item i _ _ _ hlt hst' fun v h₁ tk₁ hP hst₁ hk₁ => ?_
    obtain ⟨F₁, N₁⟩ := next h₁ hk₁
    refine wpAny_assign_Name (wpAny_storeName_local hx F₁.ns (fun h₂ hn₂ hs₂ => ?_) hp)
    have F₂ := F₁.set hn₂ hs₂
    have Nown : News h₀ env.locals h₂ (ownOf h₀ fp h₂) := news_ownOf S.off
    have hst₂ : St (i + 1) h₂ := S.W.frame _ _ _ hst₁ fun b hb o e => (hs₂.2 b fun q => S.off (q ▸ hb)).trans e
    refine wpG_mono (step i v m' news' h₂ _ (ownOf h₀ fp h₂) hlt hP hJ hn' F₂ (Nown.append (N₁.set hs₂)) ownOf_sub) (fun f s₃ h₃ => ?_) fun _ _ e => e.elim
    have go : (∃ h' tk m₂ news₂, s₃ = { s with heap := h', toks := tk } ∧ Fr h₀ env.locals h' m₂ ∧ News h₀ env.locals h' (ownOf h₀ fp h₂ ++ news₂) ∧ NoIter c news₂ ∧ J (i + 1) m₂ news₂) → ∃ k, k < n + 1 - i ∧
        ∃ h' tk m' news' j, s₃ = { s with heap := h', toks := tk } ∧ St j h' ∧ Fr h₀ env.locals h' m' ∧ News h₀ env.locals h' news' ∧ NoIter c news' ∧ J j m' news' ∧ j ≤ n ∧ k = n + 1 - j := by
      rintro ⟨h₃', tk₃, m₂, news₂, rfl, F₃, N₃, hn₃, hJ₃⟩
      exact ⟨n + 1 - (i + 1), by omega, h₃', tk₃, m₂, news₂, i + 1, rfl, turn_next S hst₂ F₂ F₃ N₃, F₃, fun p hp => N₃ p (List.mem_append_right _ hp), hn₃, hJ₃, hlt, rfl⟩
    cases f with
    | next => exact go h₃
    | cont => exact go h₃
    | brk => exact h₃
    | ret v => exact h₃
  · have hin : i = n := by omega
    subst hin
    refine S.W.done _ _ _ hst' fun h₁ tk₁ hk₁ => execsG_nil ?_
    obtain ⟨F₁, N₁⟩ := next h₁ hk₁
    exact hR h₁ tk₁ m' news' F₁ N₁ hn' hJ
end
end Mine
end
section
open PySem PySem.W PySem.Calls PyProof.Rows
open Sem (wp)
set_option Elab.async false
set_option maxRecDepth 100000
namespace Mine
section
variable {prog : Program} {w : World} {A : Around} {s : Shared} {env : Env} {h₀ : Heap} {L : Addr} {m : Str → Option Value} {news : List (Addr × Obj)} {E : Value → Shared → Prop} {Q : Value → Shared → Prop}

theorem ns_not {h : Heap} {o : Obj} (F : Fr h₀ L h m) {a : Addr} (ho : h.get? a = some o) (hd : ∀ es n, o.data ≠ .dict es n) : L ≠ a := fun e => by
  obtain ⟨oL, es, ep, hL, hLd, _⟩ := F.ns
  rw [e, ho] at hL
  cases hL
  exact hd _ _ hLd
theorem new_none {h : Heap} (F : Fr h₀ L h m) : h₀.get? h.objs.size = none := by
  cases q : h₀.get? h.objs.size with
  | none => rfl
  | some o => exact absurd (Heap.lt_size (F.keep _ _ q)) (Nat.lt_irrefl _)
theorem ns_lt {h : Heap} (F : Fr h₀ L h m) : L ≠ h.objs.size := by
  obtain ⟨oL, _, _, hL, _⟩ := F.ns
  exact Nat.ne_of_lt (Heap.lt_size hL)
theorem news_push {o : Obj} {h : Heap} (N : News h₀ L h news) : News h₀ L (h.push o) news := fun p hp => ⟨Heap.get?_push_of_some _ (N p hp).1, (N p hp).2⟩

theorem noIter_start {h : Heap} (N : News h₀ L h news) : NoIter h.objs.size news := fun p hp => .inr (Heap.lt_size (N p hp).1)
theorem src_list {l : Addr} {vs : List Value} (hh : A.handled = none) (F : Fr h₀ L s.heap m) (N : News h₀ L s.heap news) (hl : s.heap.IsList l vs.toArray)
    (k : ∀ I fp wr St h', Src prog w A h₀ L s.heap.objs.size I fp wr vs.length (fun i v => vs[i]? = some v) St → St 0 h' → Fr h₀ L h' m → News h₀ L h' news → NoIter s.heap.objs.size news → (∀ b ∈ fp, b = l ∨ @LE.le Nat _ s.heap.objs.size b) → Q (.ref I) { s with heap := h' }) :
    wpAny (model prog w) A (pyIter (.ref l)) Q E s := by
  obtain ⟨o, ho, hc, n, hd⟩ := id hl
  have hlI : l ≠ s.heap.objs.size := Nat.ne_of_lt (Heap.lt_size ho)
  refine wpAny_pyIter_list hl (k _ [s.heap.objs.size, l] [s.heap.objs.size] (fun i h => h.IsListIter s.heap.objs.size l i ∧ h.IsList l vs.toArray) _ ⟨?_, ?_, ?_, fun b hb => Nat.le_of_eq (List.mem_singleton.mp hb).symm, ?_⟩ ⟨⟨_, Heap.get?_push_size _ rfl, rfl, rfl⟩, hl.push _⟩ (F.push _) (news_push N) (noIter_start N) (fun b hb => (List.mem_cons.mp hb).elim (fun e => .inr (Nat.le_of_eq e.symm)) fun e => .inl (List.mem_singleton.mp e)))
  · have W := Walks.list (prog := prog) (w := w) hh s.heap.objs.size l hlI vs.toArray
    simpa using W
  · intro hm
    rcases List.mem_cons.mp hm with e | e
    · exact ns_lt F e
    · exact ns_not F ho (by rw [hd]; exact fun _ _ z => by cases z) (List.mem_singleton.mp e)
  · intro b hb
    rw [List.mem_singleton.mp hb]; exact new_none F
  · rintro i h ⟨⟨o, ho, hc, _⟩, _⟩ b hb
    rw [List.mem_singleton.mp hb]
    exact ⟨o, ho, by unfold isIter; rw [hc]; rfl⟩
theorem src_rev {l : Addr} {vs : List Value} (hh : A.handled = none) (F : Fr h₀ L s.heap m) (N : News h₀ L s.heap news) (hl : s.heap.IsList l vs.toArray)
    (k : ∀ I fp wr St h', Src prog w A h₀ L s.heap.objs.size I fp wr vs.length (fun i v => vs.reverse[i]? = some v) St → St 0 h' → Fr h₀ L h' m → News h₀ L h' news → NoIter s.heap.objs.size news → (∀ b ∈ fp, b = l ∨ @LE.le Nat _ s.heap.objs.size b) → Q (.ref I) { s with heap := h' }) :
    wpAny (model prog w) A (call (.type "reversed") [.ref l]) (fun x s' => wpAny (model prog w) A (pyIter x) Q E s') E s := by
  obtain ⟨o, ho, hc, n, hd⟩ := id hl
  have hlI : l ≠ s.heap.objs.size := Nat.ne_of_lt (Heap.lt_size ho)
  have hit : (s.heap.push (revObj l ((vs.toArray.size : Int) - 1))).IsRevIter s.heap.objs.size l ((vs.toArray.size : Int) - 1) := ⟨_, Heap.get?_push_size _ rfl, rfl, rfl⟩
  refine call_reversed_list hl (wpAny_pyIter_revIter hit (k _ [s.heap.objs.size, l] [s.heap.objs.size] (fun i h => i ≤ vs.toArray.size ∧ h.IsRevIter s.heap.objs.size l ((vs.toArray.size : Int) - 1 - i) ∧ h.IsList l vs.toArray) _ ⟨?_, ?_, ?_, fun b hb => Nat.le_of_eq (List.mem_singleton.mp hb).symm, ?_⟩ ⟨Nat.zero_le _, by simpa using hit, hl.push _⟩ (F.push _) (news_push N) (noIter_start N) (fun b hb => (List.mem_cons.mp hb).elim (fun e => .inr (Nat.le_of_eq e.symm)) fun e => .inl (List.mem_singleton.mp e))))
  · have W := Walks.listRev (prog := prog) (w := w) hh s.heap.objs.size l hlI vs.toArray
    have e : (fun i v => vs.reverse[i]? = some v) = fun (i : Nat) (v : Value) => (i < vs.length ∧ vs.toArray[vs.toArray.size - 1 - i]? = some v) := by
      funext i v
      by_cases h : i < vs.length
      · rw [List.getElem?_reverse h]; simp only [List.size_toArray, List.getElem?_toArray, h, true_and]
      · simp [h, List.getElem?_eq_none (show vs.reverse.length ≤ i by simp; omega)]
    rw [e]
    exact ⟨W.sub, W.frame, fun i s Q E hi st hQ => W.item i s Q E (by simpa using hi) st fun v h' tk hv => hQ v h' tk ⟨by simpa using hi, hv⟩, by simpa using W.done, W.self⟩
  · intro hm
    rcases List.mem_cons.mp hm with e | e
    · exact ns_lt F e
    · exact ns_not F ho (by rw [hd]; exact fun _ _ z => by cases z) (List.mem_singleton.mp e)
  · intro b hb
    rw [List.mem_singleton.mp hb]; exact new_none F
  · rintro i h ⟨_, ⟨o, ho, hc, _⟩, _⟩ b hb
    rw [List.mem_singleton.mp hb]
    exact ⟨o, ho, by unfold isIter; rw [hc]; rfl⟩
/-- range(a, b), both small -/
theorem src_range {r : Addr} {a b : Int} {t u v : Tok} (hh : A.handled = none) (F : Fr h₀ L s.heap m) (N : News h₀ L s.heap news) (hr : IsRange s.heap r a b 1 t u v)
    (ha : -(2 ^ 62) ≤ a) (ha' : a < 2 ^ 62) (hb : -(2 ^ 62) ≤ b) (hb' : b < 2 ^ 62)
    (k : ∀ I fp wr St h', Src prog w A h₀ L s.heap.objs.size I fp wr (b - a).toNat (fun i v => ∃ t, v = .int (a + (i : Int)) t) St → St 0 h' → Fr h₀ L h' m → News h₀ L h' news → NoIter s.heap.objs.size news → (∀ b ∈ fp, @LE.le Nat _ s.heap.objs.size b) → Q (.ref I) { s with heap := h' }) :
    wpAny (model prog w) A (pyIter (.ref r)) Q E s := by
  have e : Builtin.Range.rangeSize a b 1 = ((b - a).toNat : Int) := by rw [rangeSize_one]; split <;> omega
  refine wpAny_pyIter_range hr (small_one ha ha' hb hb') (k _ [s.heap.objs.size] [s.heap.objs.size] (fun i h => IsRangeIter h s.heap.objs.size (a + (i : Nat) * 1) (((b - a).toNat : Int) - (i : Nat)) 1) _ ⟨LCg.range_walks hh a (b - a).toNat, ?_, ?_, fun b hb => Nat.le_of_eq (List.mem_singleton.mp hb).symm, ?_⟩ ?_ (F.push _) (news_push N) (noIter_start N) (fun b hb => Nat.le_of_eq (List.mem_singleton.mp hb).symm))
  · intro hm; exact ns_lt F (List.mem_singleton.mp hm)
  · intro b hb
    rw [List.mem_singleton.mp hb]; exact new_none F
  · intro i h st b hb
    rw [List.mem_singleton.mp hb]
    exact ⟨_, st, rfl⟩
  · show IsRangeIter _ _ _ _ _
    rw [e]
    simpa using Heap.get?_push_size _ rfl
theorem src_buf {x : Value} {b : Array UInt8} (hh : A.handled = none) (F : Fr h₀ L s.heap m) (N : News h₀ L s.heap news) (hx : Buf s.heap x b)
    (k : ∀ I fp wr St h', Src prog w A h₀ L s.heap.objs.size I fp wr b.size (fun i v => ∃ (c : UInt8) (u : Tok), b[i]? = some c ∧ v = .int (c.toNat : Int) u) St → St 0 h' → Fr h₀ L h' m → News h₀ L h' news → NoIter s.heap.objs.size news → (∀ b ∈ fp, x = .ref b ∨ @LE.le Nat _ s.heap.objs.size b) → Q (.ref I) { s with heap := h' }) :
    wpAny (model prog w) A (pyIter x) Q E s := by
  cases hx with
  | bytes b t =>
    refine KBw.pyIter_bytes (k _ [s.heap.objs.size] [s.heap.objs.size] (fun i h => KBw.IsBytesIter h s.heap.objs.size b t i) _ ⟨KBw.walks hh s.heap.objs.size b t, ?_, ?_, fun b hb => Nat.le_of_eq (List.mem_singleton.mp hb).symm, ?_⟩ ⟨_, Heap.get?_push_size _ rfl, rfl, rfl⟩ (F.push _) (news_push N) (noIter_start N) (fun b hb => by first | exact .inr (Nat.le_of_eq (List.mem_singleton.mp hb).symm) | exact (List.mem_cons.mp hb).elim (fun e => .inr (Nat.le_of_eq e.symm)) fun e => .inl (by rw [List.mem_singleton.mp e])))
    · intro hm; exact ns_lt F (List.mem_singleton.mp hm)
    · intro b hb
      rw [List.mem_singleton.mp hb]; exact new_none F
    · rintro i h ⟨o, ho, hc, _⟩ b hb
      rw [List.mem_singleton.mp hb]
      exact ⟨o, ho, by unfold isIter; rw [hc]; rfl⟩
  | @ba a b e =>
    have haI : a ≠ s.heap.objs.size := Nat.ne_of_lt (Heap.lt_size e)
    refine ba_pyIter e (k _ [s.heap.objs.size, a] [s.heap.objs.size] (fun i h => IsBaIter h s.heap.objs.size a i ∧ h.get? a = some (baObj b)) _ ⟨baWalks hh s.heap.objs.size a haI b, ?_, ?_, fun b hb => Nat.le_of_eq (List.mem_singleton.mp hb).symm, ?_⟩ ⟨⟨_, Heap.get?_push_size _ rfl, rfl, rfl⟩, Heap.get?_push_of_some _ e⟩ (F.push _) (news_push N) (noIter_start N) (fun b hb => by first | exact .inr (Nat.le_of_eq (List.mem_singleton.mp hb).symm) | exact (List.mem_cons.mp hb).elim (fun e => .inr (Nat.le_of_eq e.symm)) fun e => .inl (by rw [List.mem_singleton.mp e])))
    · intro hm
      rcases List.mem_cons.mp hm with q | q
      · exact ns_lt F q
      · exact ns_not F e (fun _ _ z => by cases z) (List.mem_singleton.mp q)
    · intro b hb
      rw [List.mem_singleton.mp hb]; exact new_none F
    · rintro i h ⟨⟨o, ho, hc, _⟩, _⟩ b hb
      rw [List.mem_singleton.mp hb]
      exact ⟨o, ho, by unfold isIter; rw [hc]; rfl⟩
end

section
variable {prog : Program} {w : World} {A : Around} {s : Shared} {env : Env} {h₀ : Heap} {E : Value → Shared → Prop} {Q : Flow → Shared → Prop} {x : Str} {px pos : Pos} {iter : Expr} {body : List Stmt}

/-- a loop that stands ready -/
structure Ready (prog : Program) (w : World) (A : Around) (h₀ : Heap) (env : Env) (x : Str) (body : List Stmt) (Q : Flow → Shared → Prop) (it : Value) (s₂ : Shared) : Prop where
  go : ∃ c I fp wr n P St m news, ∃ J : Nat → (Str → Option Value) → List (Addr × Obj) → Prop, it = .ref I ∧ Src prog w A h₀ env.locals c I fp wr n P St ∧ St 0 s₂.heap ∧ Fr h₀ env.locals s₂.heap m ∧ News h₀ env.locals s₂.heap news ∧ NoIter c news ∧ J 0 m news ∧
    (∀ i v m₁ news₁ h tk own, i < n → P i v → J i m₁ news₁ → NoIter c news₁ → Fr h₀ env.locals h (fun y => if y = x then some v else m₁ y) → News h₀ env.locals h (own ++ news₁) → (∀ p ∈ own, p.1 ∈ fp) →
      wpAny (model prog w) A (execs body env) (Turn c h₀ env.locals own (J (i + 1)) s₂ Q) (fun _ _ => False) { s₂ with heap := h, toks := tk }) ∧
    (∀ h' tk m' news', Fr h₀ env.locals h' m' → News h₀ env.locals h' news' → NoIter c news' → J n m' news' → Q .next { s₂ with heap := h', toks := tk })
structure ReadyG (prog : Program) (w : World) (A : Around) (h₀ : Heap) (env : Env) (x : Str) (body : List Stmt) (Q : Flow → Shared → Prop) (it : Value) (s₂ : Shared) : Prop where
  go : ∃ c I fp wr n P St m news, ∃ J : Nat → (Str → Option Value) → List (Addr × Obj) → Prop, it = .ref I ∧ Src prog w A h₀ env.locals c I fp wr n P St ∧ St 0 s₂.heap ∧ Fr h₀ env.locals s₂.heap m ∧ News h₀ env.locals s₂.heap news ∧ NoIter c news ∧ J 0 m news ∧
    (∀ i v m₁ news₁ h tk own, i < n → P i v → J i m₁ news₁ → NoIter c news₁ → Fr h₀ env.locals h (fun y => if y = x then some v else m₁ y) → News h₀ env.locals h (own ++ news₁) → (∀ p ∈ own, p.1 ∈ fp) →
      wpG (model prog w) A (execs body env) (Turn c h₀ env.locals own (J (i + 1)) s₂ Q) (fun _ _ => False) { s₂ with heap := h, toks := tk }) ∧
    (∀ h' tk m' news', Fr h₀ env.locals h' m' → News h₀ env.locals h' news' → NoIter c news' → J n m' news' → Q .next { s₂ with heap := h', toks := tk })

theorem for_my (h₀ : Heap) (h : wpAny (model prog w) A (eval iter env) (fun xv s₁ => wpAny (model prog w) A (pyIter xv) (fun it s₂ => Ready prog w A h₀ env x body Q it s₂) E s₁) E s)
    (hx : env.kindOf x = some .local) (hp : (env.scope.kind == .class || (env.scope.kind == .module && env.locals != env.globals)) = false)
    (hs : ∀ x, foldedSetIterable iter env x = pure x := by intro _; rfl) :
    wpAny (model prog w) A (exec (.For (.Name x px) iter body [] pos) env) Q E s := by
  refine wpAny_For (wpAny_mono h (fun xv s₁ h₁ => wpAny_mono h₁ (fun it s₂ h₂ => ?_) fun _ _ e => e) fun _ _ e => e) hs
  obtain ⟨c, I, fp, wr, n, P, St, m, news, J, rfl, S, hst, F, N, hn, h0, step, hQ⟩ := h₂.go
  exact forLoop_my (R := fun r s' => match r with | .ok f => Q f s' | .error e => cameBackBy (model prog w) A env E e s') S hx hp hst F N hn J h0 step hQ
theorem for_myG (h₀ : Heap) (h : wpAny (model prog w) A (eval iter env) (fun xv s₁ => wpAny (model prog w) A (pyIter xv) (fun it s₂ => ReadyG prog w A h₀ env x body Q it s₂) E s₁) E s)
    (hx : env.kindOf x = some .local) (hp : (env.scope.kind == .class || (env.scope.kind == .module && env.locals != env.globals)) = false)
    (hs : ∀ x, foldedSetIterable iter env x = pure x := by intro _; rfl) :
    wpG (model prog w) A (exec (.For (.Name x px) iter body [] pos) env) Q E s := by
  refine forG (wpAny_mono h (fun xv s₁ h₁ => wpAny_mono h₁ (fun it s₂ h₂ => ?_) fun _ _ e => e) fun _ _ e => e) hs
  obtain ⟨c, I, fp, wr, n, P, St, m, news, J, rfl, S, hst, F, N, hn, h0, step, hQ⟩ := h₂.go
  exact forLoop_myG (R := fun r s' => match r with | .ok f => Q f s' | .error e => cameBackBy (model prog w) A env E e s') S hx hp hst F N hn J h0 step hQ
end
end Mine
end
section
open PySem PySem.W PyProof.Rows
set_option Elab.async false
namespace Mine
set_option maxRecDepth 100000
set_option maxHeartbeats 8000000
open_top hd for PySem.Challenge.rw_ll0027_01
end Mine
end
section
open PySem PySem.W PySem.Calls PyProof.Rows
set_option Elab.async false
namespace Mine
theorem and_nat (a b : Nat) : Builtin.bitAnd (a : Int) (b : Int) = ((a &&& b : Nat) : Int) := by
  unfold Builtin.bitAnd
  simp
theorem or_nat (a b : Nat) : Builtin.bitOr (a : Int) (b : Int) = ((a ||| b : Nat) : Int) := by
  have h1 : decide (0 ≤ Builtin.bitNot (a : Int)) = false := by simp [Builtin.bitNot]; omega
  have h2 : decide (0 ≤ Builtin.bitNot (b : Int)) = false := by simp [Builtin.bitNot]; omega
  have h3 : ∀ x : Int, Builtin.bitNot (Builtin.bitNot x) = x := fun x => by simp [Builtin.bitNot]; omega
  unfold Builtin.bitOr Builtin.bitAnd
  rw [h1, h2]
  simp only [h3, Int.toNat_natCast]
theorem or_xor_and : ∀ (a b : Nat), (a ||| b) = (a ^^^ b) + (a &&& b) := by
  intro a
  induction a using Nat.strongRecOn with
  | ind a ih =>
    intro b
    by_cases h0 : a = 0
    · subst h0; simp
    · have ih' := ih (a / 2) (Nat.div_lt_self (Nat.pos_of_ne_zero h0) (by decide)) (b / 2)
      have hm : (a ||| b) % 2 = (a ^^^ b) % 2 + (a &&& b) % 2 := by
        have m1 : (a ||| b) % 2 = (a % 2) ||| (b % 2) := Nat.or_mod_two_pow (n := 1)
        have m2 : (a ^^^ b) % 2 = (a % 2) ^^^ (b % 2) := Nat.xor_mod_two_pow (n := 1)
        have m3 : (a &&& b) % 2 = (a % 2) &&& (b % 2) := Nat.and_mod_two_pow (n := 1)
        rw [m1, m2, m3]
        rcases Nat.mod_two_eq_zero_or_one a with p | p <;> rcases Nat.mod_two_eq_zero_or_one b with q | q <;> rw [p, q] <;> rfl
      rw [← Nat.or_div_two, ← Nat.xor_div_two, ← Nat.and_div_two] at ih'
      rw [← Nat.div_add_mod (a ||| b) 2, ih', hm]
      clear ih' hm ih h0
      have e1 := Nat.div_add_mod (a ^^^ b) 2
      have e2 := Nat.div_add_mod (a &&& b) 2
      rw [Nat.mul_add, Nat.add_add_add_comm, e1, e2]
theorem xor_nat (a b : Nat) : Builtin.bitXor (a : Int) (b : Int) = ((a ^^^ b : Nat) : Int) := by
  unfold Builtin.bitXor
  rw [or_nat, and_nat, or_xor_and]
  omega

/-- one bit of the standard's division -/
noncomputable def bitStep (o r : Int) (p : Int) : Int := Builtin.bitXor (r.fdiv 2) (2197175160 * (Builtin.bitXor r (o.fdiv (2 ^ p.toNat))).fmod 2)
noncomputable def bitsN (o r : Int) : Nat → Int
  | 0 => r
  | n + 1 => bitStep o (bitsN o r n) (n : Int)
noncomputable def sumN (ns : List Int) : Int := ns.foldl (fun r o => bitsN o r 8) 4294967295
theorem bitStep_nat (o r p : Nat) : bitStep (o : Int) (r : Int) (p : Int) = (((r / 2) ^^^ (2197175160 * ((r ^^^ (o / 2 ^ p)) % 2)) : Nat) : Int) := by
  unfold bitStep
  have e1 : (r : Int).fdiv 2 = ((r / 2 : Nat) : Int) := by rw [Int.fdiv_eq_ediv_of_nonneg _ (by omega)]; rfl
  have e2 : (o : Int).fdiv (2 ^ (p : Int).toNat) = ((o / 2 ^ p : Nat) : Int) := by
    rw [Int.toNat_natCast, Int.fdiv_eq_ediv_of_nonneg _ (Int.pow_nonneg (by omega))]; push_cast; rfl
  rw [e1, e2, xor_nat]
  have e3 : (((r ^^^ o / 2 ^ p : Nat)) : Int).fmod 2 = (((r ^^^ o / 2 ^ p) % 2 : Nat) : Int) := by rw [Int.fmod_eq_emod_of_nonneg _ (by omega)]; rfl
  rw [e3]
  have e4 : (2197175160 : Int) * (((r ^^^ o / 2 ^ p) % 2 : Nat) : Int) = ((2197175160 * ((r ^^^ o / 2 ^ p) % 2) : Nat) : Int) := by rw [Int.natCast_mul]; rfl
  rw [e4, xor_nat]
theorem bitStep_lt (o r p : Nat) (h : r < 2 ^ 32) : (r / 2) ^^^ (2197175160 * ((r ^^^ (o / 2 ^ p)) % 2)) < 2 ^ 32 := by
  refine Nat.xor_lt_two_pow (by omega) ?_
  have := Nat.mod_lt (r ^^^ (o / 2 ^ p)) (show 0 < 2 by omega)
  omega
theorem bitStep_range {o r : Int} {p : Nat} (ho : 0 ≤ o) (h0 : 0 ≤ r) (h1 : r < 2 ^ 32) : 0 ≤ bitStep o r p ∧ bitStep o r p < 2 ^ 32 := by
  obtain ⟨o', rfl⟩ := Int.eq_ofNat_of_zero_le ho
  obtain ⟨r', rfl⟩ := Int.eq_ofNat_of_zero_le h0
  rw [bitStep_nat]
  have := bitStep_lt o' r' p (by omega)
  omega
theorem bitsN_range {o r : Int} (ho : 0 ≤ o) (h0 : 0 ≤ r) (h1 : r < 2 ^ 32) : ∀ n, 0 ≤ bitsN o r n ∧ bitsN o r n < 2 ^ 32
  | 0 => ⟨h0, h1⟩
  | n + 1 => bitStep_range ho (bitsN_range ho h0 h1 n).1 (bitsN_range ho h0 h1 n).2
theorem sumN_snoc (ns : List Int) (o : Int) : sumN (ns ++ [o]) = bitsN o (sumN ns) 8 := by unfold sumN; rw [List.foldl_append]; rfl
theorem foldl_range_crc : ∀ (ns : List Int) (r : Int), (∀ n ∈ ns, 0 ≤ n ∧ n < 256) → 0 ≤ r → r < 2 ^ 32 → 0 ≤ ns.foldl (fun r o => bitsN o r 8) r ∧ ns.foldl (fun r o => bitsN o r 8) r < 2 ^ 32
  | [], _, _, h0, h1 => ⟨h0, h1⟩
  | n :: ns, r, h, h0, h1 => by
    have := bitsN_range (h n (.head _)).1 h0 h1 8
    exact foldl_range_crc ns _ (fun x hx => h x (.tail _ hx)) this.1 this.2
theorem sumN_range {ns : List Int} (h : ∀ n ∈ ns, 0 ≤ n ∧ n < 256) : 0 ≤ sumN ns ∧ sumN ns < 2 ^ 32 := foldl_range_crc ns _ h (by decide) (by decide)
end Mine
end
section
open PySem PySem.W PySem.Calls PyProof.Rows
set_option Elab.async false
namespace Mine
/-- the octets of a number, the lowest digit first -/
noncomputable def encNat (z : Nat) : List Nat := if h : z ≤ 127 then [z] else (128 + z % 128) :: encNat (z / 128)
termination_by z
decreasing_by omega
theorem enc1 {z : Nat} (h : z ≤ 127) : encNat z = [z] := by rw [encNat, dif_pos h]
theorem encS {z : Nat} (h : ¬ z ≤ 127) : encNat z = (128 + z % 128) :: encNat (z / 128) := by rw [encNat, dif_neg h]
theorem enc_len : ∀ (k : Nat) {z : Nat}, z < 128 ^ (k + 1) → (encNat z).length ≤ k + 1
  | 0, z, h => by rw [enc1 (by omega)]; exact Nat.le_refl _
  | k + 1, z, h => by
    by_cases h1 : z ≤ 127
    · rw [enc1 h1]; simp
    · rw [encS h1]
      have : z / 128 < 128 ^ (k + 1) := by
        rw [Nat.pow_succ] at h
        exact Nat.div_lt_of_lt_mul (by rw [Nat.mul_comm]; exact h)
      have := enc_len k this
      simp only [List.length_cons]; omega
theorem enc_len2 : ∀ (k : Nat) {z : Nat}, 128 ^ k ≤ z → 1 ≤ k → k + 1 ≤ (encNat z).length
  | 0, _, _, h => absurd h (by decide)
  | 1, z, h, _ => by
    rw [encS (by omega)]
    by_cases h1 : z / 128 ≤ 127
    · rw [enc1 h1]; simp
    · rw [encS h1]; simp
  | k + 2, z, h, _ => by
    have h0 : 128 ≤ 128 ^ (k + 2) := by
      rw [Nat.pow_succ]; have : 0 < 128 ^ (k + 1) := Nat.pow_pos (by decide); omega
    rw [encS (by omega)]
    have : 128 ^ (k + 1) ≤ z / 128 := by
      rw [Nat.le_div_iff_mul_le (by decide)]
      rw [Nat.pow_succ] at h; exact h
    have := enc_len2 (k + 1) this (by omega)
    simp only [List.length_cons]; omega
theorem enc2 {z : Nat} (h0 : ¬ z ≤ 127) (h : z ≤ 16383) : encNat z = [128 + z % 128, z / 128] := by rw [encS h0, enc1 (by omega)]
theorem enc3 {z : Nat} (h0 : ¬ z ≤ 16383) (h : z ≤ 2097151) : encNat z = [128 + z % 128, 128 + z / 128 % 128, z / 16384] := by
  rw [encS (by omega), encS (by omega), enc1 (by omega)]
  simp only [Nat.div_div_eq_div_mul, Nat.reduceMul]
theorem enc4 {z : Nat} (h0 : ¬ z ≤ 2097151) (h : z ≤ 268435455) : encNat z = [128 + z % 128, 128 + z / 128 % 128, 128 + z / 16384 % 128, z / 2097152] := by
  rw [encS (by omega), enc3 (by omega) (by omega)]
  simp only [Nat.div_div_eq_div_mul, Nat.reduceMul]
theorem enc5 {z : Nat} (h0 : ¬ z ≤ 268435455) (h : z ≤ 34359738367) : encNat z = [128 + z % 128, 128 + z / 128 % 128, 128 + z / 16384 % 128, 128 + z / 2097152 % 128, z / 268435456] := by
  rw [encS (by omega), enc4 (by omega) (by omega)]
  simp only [Nat.div_div_eq_div_mul, Nat.reduceMul]
/-- what is still to write, with the bits in hand -/
noncomputable def encW (bits z : Nat) : List Nat := if z = 0 then [bits] else (128 + bits) :: encNat z
theorem encW_of (z : Nat) : encW (z % 128) (z / 128) = encNat z := by
  unfold encW
  by_cases h : z ≤ 127
  · rw [if_pos (by omega), enc1 h, Nat.mod_eq_of_lt (by omega)]
  · rw [if_neg (by omega), encS h]
noncomputable def toI (l : List Nat) : List Int := l.map fun x : Nat => (x : Int)
theorem shr_nat (n k : Nat) : (n : Int).fdiv (2 ^ k) = ((n / 2 ^ k : Nat) : Int) := by
  rw [Int.fdiv_eq_ediv_of_nonneg _ (Int.pow_nonneg (by decide))]; push_cast; rfl
theorem shr7 (z : Nat) : (z : Int).fdiv (2 ^ Int.toNat 7) = ((z / 128 : Nat) : Int) := shr_nat z 7
theorem shr14 (z : Nat) : (z : Int).fdiv (2 ^ Int.toNat 14) = ((z / 16384 : Nat) : Int) := shr_nat z 14
theorem shr21 (z : Nat) : (z : Int).fdiv (2 ^ Int.toNat 21) = ((z / 2097152 : Nat) : Int) := shr_nat z 21
theorem shr28 (z : Nat) : (z : Int).fdiv (2 ^ Int.toNat 28) = ((z / 268435456 : Nat) : Int) := shr_nat z 28
theorem and127 (n : Nat) : Builtin.bitAnd (n : Int) 127 = ((n % 128 : Nat) : Int) := by rw [bitAnd_m7]; push_cast; rfl
theorem or128 {n : Nat} (h : n < 128) : Builtin.bitOr 128 (n : Int) = ((128 + n : Nat) : Int) := by
  have : (128 : Int) = ((128 : Nat) : Int) := rfl
  rw [this, or_nat]
  have e := Nat.two_pow_add_eq_or_of_lt (i := 7) h 1
  rw [Nat.mul_one] at e
  rw [show (128 : Nat) = 2 ^ 7 from rfl, ← e]
theorem or127 (n : Nat) : Builtin.bitOr 128 (Builtin.bitAnd (n : Int) 127) = ((128 + n % 128 : Nat) : Int) := by
  rw [and127, or128 (Nat.mod_lt _ (by decide))]
theorem xor_neg1 (x : Int) : Builtin.bitXor x (-1) = -x - 1 := by
  rw [bitXor_and]
  have : Builtin.bitAnd x (-1) = x := by
    unfold Builtin.bitAnd
    by_cases h : 0 ≤ x
    · simp [h, Builtin.bitNot]
    · simp [h, Builtin.bitNot]
      omega
  rw [this]; omega
theorem zz_val {v : Int} (h1 : -(2 ^ 63) ≤ v) (h2 : v < 2 ^ 63) : Builtin.bitXor (v * 2 ^ Int.toNat 1) (v.fdiv (2 ^ Int.toNat 63)) = if 0 ≤ v then 2 * v else -2 * v - 1 := by
  have e1 : v * 2 ^ Int.toNat 1 = 2 * v := by show v * 2 ^ 1 = _; omega
  have e2 : v.fdiv (2 ^ Int.toNat 63) = if 0 ≤ v then 0 else -1 := by
    show v.fdiv (2 ^ 63) = _
    rw [Int.fdiv_eq_ediv_of_nonneg _ (by decide)]
    split <;> omega
  rw [e1, e2]
  split
  · rw [bitXor_zero]
  · rw [xor_neg1]; omega
end Mine
end
section
open PySem PySem.W PySem.Calls PyProof.Rows
open Sem (wp)
set_option Elab.async false
set_option maxRecDepth 100000
namespace Mine
@[reducible] noncomputable def PG : Program := PySem.Challenge.rw_ll0027_01.row.prog
@[reducible] noncomputable def LS : List Str := looseW hd.view_39 [Str.ofString "crc_update", Str.ofString "decode_varint", Str.ofString "_crc32c", Str.ofString "calc_crc32c"]
/-- the written heap's list for the walk -/
theorem filled (w : World) (_ : hd.heap_39 w.params = hd.heap_39 w.params) (_ : PySem.Challenge.rw_ll0027_01 = PySem.Challenge.rw_ll0027_01) : PySem.Challenge.rw_ll0027_01.row.prog = PySem.Challenge.rw_ll0027_01.row.prog ∧ hd.heap_39 w.params = hd.heap_39 w.params := by
  k_fill
  exact ⟨rfl, rfl⟩
end Mine
end
section
open PySem PySem.W PySem.Calls PyProof.Rows
open Sem (wp)
set_option maxRecDepth 100000
namespace Mine
local macro_rules | `(tactic| walk_at "my enter") => `(tactic| (
  (case k6 => k_is); (case k7 => k_is); (case k9 => first | exact BindsTo.of_eq rfl | exact binds_K (by k_in) rfl (by k_is) rfl rfl rfl); (case c5 => decide); (case kB => exact locs rfl); (case c2 => exact rfl); (case c3 => exact rfl); (case c4 => exact rfl)
  k_whole))
local macro_rules | `(tactic| walk_at "my ld") => `(tactic| (k_here; k_dflt (refine' ld ?k1 ?k2 ?_; (case k1 => k_asm); (case k2 => assumption); k_whole)))
local macro_rules | `(tactic| walk_at "my nameB") => `(tactic| (k_here; k_dflt (refine' nameX_B ?F ?X ?T ?e PyProof.Rows.Boot.bytearray ?n ?_ ?a ?b; (case F => k_asm); (case X => k_asm); (case T => k_asm); (case a => rfl); (case b => rfl); (case e => k_is); (case n => decide); k_whole)))
section
theorem offC1 : True := by
  w_top off
  exact True.intro
/-- where a def of the text is called -/
structure Cx (w : World) (A : Around) (h₀ : Heap) (L : Addr) : Prop where
  go : ∃ A₀ base outer env mg mb mean, Below A₀ base outer h₀ ∧ (hd.heap_39 w.params).In h₀ ∧ Top hd.view_39 LS mean mg mb h₀ ∧ A.frames = some (env :: outer) ∧ env.frame = some L ∧ env.scope.kind = .function
theorem Cx.deeper {w : World} {A : Around} {base g : Heap} {L' : Addr} {outer : List Env} {env' : Env} {mg mb : Str → Option Value} {mean : ExcName → Option Value} (hA : A.frames = some outer) (B : Below A base outer g) (X : (hd.heap_39 w.params).In g)
    (T : Top hd.view_39 LS mean mg mb g) (hf : env'.frame = some L') (hk : env'.scope.kind = .function) : Cx w (A.deeper env') g L' :=
  ⟨A, base, outer, env', mg, mb, mean, B, X, T, by simp [Around.deeper, hA], hf, hk⟩
noncomputable def zz (v : Int) : Int := Builtin.bitXor (v * 2 ^ Int.toNat 1) (v.fdiv (2 ^ Int.toNat 63))
noncomputable def szZ (z : Int) : Int :=
  if z ≤ 127 then 1 else if z ≤ 16383 then 2 else if z ≤ 2097151 then 3 else if z ≤ 268435455 then 4 else if z ≤ 34359738367 then 5 else
  if z ≤ 4398046511103 then 6 else if z ≤ 562949953421311 then 7 else if z ≤ 72057594037927935 then 8 else if z ≤ 9223372036854775807 then 9 else 10
theorem filled1 (w : World) (_ : hd.heap_39 w.params = hd.heap_39 w.params) (_ : PySem.Challenge.rw_ll0027_01 = PySem.Challenge.rw_ll0027_01) : PySem.Challenge.rw_ll0027_01.row.prog = PySem.Challenge.rw_ll0027_01.row.prog ∧ hd.heap_39 w.params = hd.heap_39 w.params := by
  k_fill
  exact ⟨rfl, rfl⟩
section
variable {w : World} {A₀ A : Around} {s : Shared} {base h₀ : Heap} {outer : List Env} {L : Addr} {m mg mb : Str → Option Value} {env : Env} {news : List (Addr × Obj)} {mean : ExcName → Option Value}
  {Q : Value → Shared → Prop} {E : Value → Shared → Prop}
set_option maxHeartbeats 4000000 in
theorem size_c (C : Cx w A h₀ L) (F : Fr h₀ L s.heap m) (N : News h₀ L s.heap news) (hroom : A.depth < recursionLimit) {v : Int} {t : Tok} (h1 : -(2 ^ 63) ≤ v) (h2 : v < 2 ^ 63)
    (k : ∀ h' tk t' n, n = szZ (zz v) → Fr h₀ L h' m → News h₀ L h' news → Q (.int n t') { s with heap := h', toks := tk }) :
    wpAny (model PySem.Challenge.rw_ll0027_01.row.prog w) A (call (.ref 51) [.int v t]) Q E s := by
  obtain ⟨A₀, base, outer, env, mg, mb, mean, B, X₀, T, hA, hf, hke⟩ := C.go
  refine wpAny_call ?_
  k_dflt (refine' code_def B F X₀ N T hA hf hke ?k6 ?k7 hroom ?k9 ?kB ?_ ?c2 ?c3 ?c4 ?c5)
  walk_at "my enter"
  intro g' L' h' FG' F' N' B' X' T'
  (try dsimp only)
  clear hA hf hke hroom B F X₀ N T C
  k_steps
  all_goals refine leaveK_ (by assumption) (by assumption) fun F₁ N₁ => ?_
  all_goals refine k _ _ _ _ ?_ F₁ N₁
  all_goals
    rw [show zz v = Builtin.bitXor (v * 2 ^ Int.toNat 1) (v.fdiv (2 ^ Int.toNat 63)) from rfl]
    unfold szZ
    repeat (first | rw [if_pos (by assumption)] | rw [if_neg (by assumption)])
end
end
section
theorem offC2 : True := by
  w_top off
  exact True.intro
/-- the walk halts here -/
structure Halt (p : Prop) : Prop where
  go : p
theorem halt {p : Prop} (h : Halt p) : p := h.go
local macro_rules | `(tactic| walk_at "exec For Name Name cons nil") => `(tactic| refine' halt ?_)
local macro_rules | `(tactic| walk_at "exec For Name Call cons nil") => `(tactic| refine' halt ?_)
local macro_rules | `(tactic| walk_at "eval Name") => `(tactic| walk_at "my ld")
theorem ints_at : ∀ {vs : List Value} {ns : List Int}, IntsAre vs ns → ∀ {i : Nat} {v : Value}, vs[i]? = some v → ∃ n t, ns[i]? = some n ∧ v = .int n t
  | _, _, .cons n t _, 0, _, e => ⟨n, t, rfl, (Option.some.inj e).symm⟩
  | _, _, .cons _ _ r, i + 1, _, e => ints_at r (i := i) e
theorem turn_of {c : Addr} {h₀ : Heap} {L : Addr} {own : List (Addr × Obj)} {J : (Str → Option Value) → List (Addr × Obj) → Prop} {s₁ : Shared} {Q : Flow → Shared → Prop} {h' : Heap} {tk : Nat} {m₂ : Str → Option Value} {news₂ : List (Addr × Obj)}
    (F : Fr h₀ L h' m₂) (N : News h₀ L h' (own ++ news₂)) (hn : NoIter c news₂) (hJ : J m₂ news₂) : Turn c h₀ L own J s₁ Q .next { s₁ with heap := h', toks := tk } := ⟨_, _, _, _, rfl, F, N, hn, hJ⟩
theorem wpAny_gen {T : Type} {M : Model} {A : Around} {t : Sem T} {s : Shared} {Q : T → Shared → Prop} {E : Value → Shared → Prop}
    (h : ∀ (Q' : T → Shared → Prop) (E' : Value → Shared → Prop), (∀ v s, Q v s → Q' v s) → (∀ e s, E e s → E' e s) → wpAny M A t Q' E' s) : wpAny M A t Q E s := h Q E (fun _ _ q => q) (fun _ _ e => e)
theorem ints_len : ∀ {vs : List Value} {ns : List Int}, IntsAre vs ns → ns.length = vs.length
  | _, _, .nil => rfl
  | _, _, .cons _ _ r => congrArg (· + 1) (ints_len r)
theorem take_snoc {ns : List Int} {i : Nat} {n : Int} (h : ns[i]? = some n) : ns.take (i + 1) = ns.take i ++ [n] := by
  rw [List.take_add_one, h]; rfl
local macro_rules | `(tactic| walk_at "pyIter ref") => `(tactic| refine' halt ?_)
theorem filled2 (w : World) (_ : hd.heap_39 w.params = hd.heap_39 w.params) (_ : PySem.Challenge.rw_ll0027_01 = PySem.Challenge.rw_ll0027_01) : PySem.Challenge.rw_ll0027_01.row.prog = PySem.Challenge.rw_ll0027_01.row.prog ∧ hd.heap_39 w.params = hd.heap_39 w.params := by
  k_fill
  exact ⟨rfl, rfl⟩
section
variable {w : World} {A₀ A : Around} {s : Shared} {base h₀ : Heap} {outer : List Env} {L : Addr} {m mg mb : Str → Option Value} {env : Env} {news : List (Addr × Obj)} {mean : ExcName → Option Value}
  {Q : Value → Shared → Prop} {E : Value → Shared → Prop}
set_option maxHeartbeats 4000000 in
theorem sum_c (C : Cx w A h₀ L) (F : Fr h₀ L s.heap m) (N : News h₀ L s.heap news) (hh : A.handled = none) (hroom : A.depth < recursionLimit) {l : Addr} {vs : List Value} {ns : List Int} {c : Nat} (hl : (l, listOf vs.toArray c) ∈ news) (hi : IntsAre vs ns)
    (ho : ∀ n ∈ ns, 0 ≤ n ∧ n < 256)
    (k : ∀ h' tk t' n, n = Builtin.bitXor (sumN ns) 4294967295 → Fr h₀ L h' m → News h₀ L h' news → Q (.int n t') { s with heap := h', toks := tk }) :
    wpAny (model PySem.Challenge.rw_ll0027_01.row.prog w) A (call (.ref 88) [.ref l]) Q E s := by
  obtain ⟨A₀, base, outer, env, mg, mb, mean, B, X₀, T, hA, hf, hke⟩ := C.go
  refine wpAny_call ?_
  k_dflt (refine' code_def B F X₀ N T hA hf hke ?k6 ?k7 hroom ?k9 ?kB ?_ ?c2 ?c3 ?c4 ?c5)
  walk_at "my enter"
  intro g' L' h' FG' F' N' B' X' T'
  (try dsimp only)
  clear hA hf hke hroom F X₀ N T C B
  refine wpAny_gen fun QQ EE hQQ _ => ?_
  k_steps
  rename Fr _ _ _ _ => F2
  rename News _ _ _ _ => N2
  have hl2 : Heap.IsList _ l vs.toArray := ⟨_, (N2 _ hl).1, rfl, _, rfl⟩
  refine ⟨for_my g' (ld F2 rfl (src_list hh F2 N2 hl2 fun I fp wr St h2 S st F3 N3 ni hfp => ⟨_, I, fp, wr, _, _, St, _, _,
    fun i m₁ news₁ => news₁ = news ∧ ∃ r t, m₁ (Str.ofString "rest") = some (.int r t) ∧ r = sumN (ns.take i) ∧ 0 ≤ r ∧ r < 2 ^ 32, rfl, S, st, F3, N3, ni, ?_, ?_, ?_⟩)) rfl rfl⟩
  · exact ⟨rfl, _, _, rfl, rfl, by decide, by decide⟩
  · intro i v m₁ news₁ h₁ tk own hi1 hP hJ hn1 F4 N4 hown
    obtain ⟨rfl, r, t, hr, hr2, hr3, hr4⟩ := hJ
    obtain ⟨n, t1, hn, rfl⟩ := ints_at hi hP
    obtain ⟨ho1, ho2⟩ := ho n (List.mem_of_getElem? hn)
    clear F2 N2 F3 N3
    k_steps
    refine ⟨for_my g' ?_ rfl rfl⟩
    k_steps
    rename Fr _ _ _ _ => F5
    rename News _ _ _ _ => N5
    refine ⟨src_range (a := 0) (b := 8) hh F5 N5 (by assumption) (by decide) (by decide) (by decide) (by decide) fun I fp wr St h2 S st F3 N3 ni hfp => ⟨_, I, fp, wr, _, _, St, _, _,
      fun i m₂ news₂ => news₂ = own ++ news₁ ∧ ∃ r' t, m₂ (Str.ofString "rest") = some (.int r' t) ∧ m₂ (Str.ofString "octet") = some (.int n t1) ∧ r' = bitsN n r i ∧ 0 ≤ r' ∧ r' < 2 ^ 32, rfl, S, st, F3, N3, ni, ?_, ?_, ?_⟩⟩
    · exact ⟨rfl, _, _, hr, rfl, rfl, hr3, hr4⟩
    · intro j v m₂ news₂ h₃ tk own₂ hj hP hJ hn2 F6 N6 hown2
      obtain ⟨rfl, r', t', hr', ho', e, b1, b2⟩ := hJ
      obtain ⟨t2, rfl⟩ := hP
      have hj8 : j < 8 := hj
      clear F3 N3 F5 N5
      k_steps
      have e2 : Builtin.bitXor (r'.fdiv 2) (2197175160 * (Builtin.bitXor r' (n.fdiv (2 ^ (0 + (j : Int)).toNat))).fmod 2) = bitStep n r' j := by rw [Int.zero_add]; rfl
      have b3 := bitStep_range (p := j) ho1 b1 b2
      refine' turn_of ?tF ?tN hn2 ?tJ
      case tF => assumption
      case tN => assumption
      refine ⟨rfl, _, _, rfl, ho', ?_, ?_, ?_⟩
      · rw [e2, e]; rfl
      · rw [e2]; exact b3.1
      · rw [e2]; exact b3.2
    · intro h3 tk m₂ news₂ F6 N6 ni2 hJ
      obtain ⟨rfl, r', t', hr', ho', e, b1, b2⟩ := hJ
      clear F3 N3 F5 N5
      k_steps
      refine turn_of F6 N6 hn1 ⟨rfl, _, _, hr', ?_, b1, b2⟩
      rw [e, hr2, take_snoc hn, sumN_snoc]
      rfl
  · intro h2 tk m₁ news₁ F4 N4 ni hJ
    obtain ⟨rfl, r, t, hr, hr2, hr3, hr4⟩ := hJ
    clear F2 N2 F3 N3
    k_steps
    refine hQQ _ _ (leaveK_ (by assumption) (by assumption) fun F₁ N₁ => ?_)
    refine k _ _ _ _ ?_ F₁ N₁
    rw [hr2, ← ints_len hi, List.take_length]
end
end
section
namespace BF
theorem lk_class : typeLookup (.type "bytearray") "__class__" = pure (some (.builtin "object.__class__")) := by rw [typeLookup_type, builtinLookup_eq_fast]; kernel_rfl
theorem sub_class_owner : isSubtype (.type "bytearray") (.type (".".intercalate ("object.__class__".cutAt '.').dropLast)) = pure true := by
  rw [F.owner_object_class, isSubtype_type]; kernel_rfl
end BF
section
variable {prog : Program} {w : World} {A : Around} {E : Value → Shared → Prop} {h : Heap} {g : Array GenState} {d : Drawn} {t : Nat} {os : OsState} {a : Addr} {b : Array UInt8}
theorem cls_got (hx : h.get? a = some (baObj b)) {R : Result → Shared → Prop} (hr : R (.ok (.ret (.type "bytearray"))) ⟨h, g, d, t, os⟩) :
    codeAny (model prog w) A (.call (.builtin "getset_descriptor.__get__") ⟨[.builtin "object.__class__", .ref a, .type "bytearray"], []⟩) R ⟨h, g, d, t, os⟩ := by
  have h1 : (⟨h, g, d, t, os⟩ : Shared).TypeIs (.ref a) "bytearray" := ⟨_, hx, rfl⟩
  have h2 : (⟨h, g, d, t, os⟩ : Shared).TypeIs (.builtin "object.__class__") "getset_descriptor" := F.typeOf_object_class
  have f8 := BF.sub_class_owner
  refine codeAny_call_builtin F.slot_gs_get.plain F.entry_gs_get (F.slot_gs_get.check _ _ _ _ _ _ _ _ h2 (F.args_gs_get _ _ _) ?_)
  repeat (any_goals (first | assumption | wp_step))
  refine ⟨Code.quiet_builtin _ (by decide +kernel), codeAny_builtin F.entry_object_class ?_⟩
  repeat (any_goals (first | assumption | wp_step))
theorem cls_named {tk : Tok} {Q : Fin → Shared → Prop} (hx : h.get? a = some (baObj b)) (hr : Q (.done (.ret (.type "bytearray"))) ⟨h, g, d, t, os⟩) :
    wpAny (model prog w) A (Builtin.«object.__getattribute__» ⟨[.ref a, .str "__class__" tk], []⟩) Q E ⟨h, g, d, t, os⟩ := by
  have h1 : (⟨h, g, d, t, os⟩ : Shared).TypeIs (.ref a) "bytearray" := ⟨_, hx, rfl⟩
  have h2 : (⟨h, g, d, t, os⟩ : Shared).TypeIs (.builtin "object.__class__") "getset_descriptor" := F.typeOf_object_class
  have f4 := BF.lk_class
  have f5 := F.typeOf_object_class
  have f6 := F.slot_gs_get.lookup
  have f7 := F.slot_gs_set.lookup
  repeat (any_goals (first | assumption | wp_step))
  refine cls_got hx ?_
  repeat (any_goals (first | assumption | wp_step))
theorem cls_code {tk : Tok} {R : Result → Shared → Prop} (hx : h.get? a = some (baObj b)) (hr : R (.ok (.ret (.type "bytearray"))) ⟨h, g, d, t, os⟩) :
    codeAny (model prog w) A (.call (.builtin "bytearray.__getattribute__") ⟨[.ref a, .str "__class__" tk], []⟩) R ⟨h, g, d, t, os⟩ :=
  codeAny_call_builtin BF.slot_ga.plain BF.entry_ga (BF.slot_ga.check _ _ _ _ _ _ _ _ (show (⟨h, g, d, t, os⟩ : Shared).TypeIs (.ref a) "bytearray" from ⟨_, hx, rfl⟩) (BF.args_ga _ _) (cls_named hx hr))
theorem cls_asked {tk : Tok} {Q : Value → Shared → Prop} (hx : h.get? a = some (baObj b)) (hr : Q (.type "bytearray") ⟨h, g, d, t, os⟩) : wpAny (model prog w) A (getAttrBy (.ref a) (.str "__class__" tk) false) Q E ⟨h, g, d, t, os⟩ := by
  have h1 : (⟨h, g, d, t, os⟩ : Shared).TypeIs (.ref a) "bytearray" := ⟨_, hx, rfl⟩
  have f2 := BF.slot_ga.lookup
  have f3 := BF.slot_ga.bind (.ref a)
  repeat (any_goals (first | assumption | wp_step))
  refine cls_code hx ?_
  repeat (any_goals (first | assumption | wp_step))
/-- the class of a bytearray, asked for by name -/
theorem ba_class {Q : Option Value → Shared → Prop} (hx : h.get? a = some (baObj b)) (hq : Q (some (.type "bytearray")) ⟨h, g, d, t + 1, os⟩) :
    wpAny (model prog w) A (getAttr? (.ref a) "__class__") Q E ⟨h, g, d, t, os⟩ := by
  unfold getAttr? getAttrBy?
  repeat (any_goals (first | assumption | with_reducible apply cls_asked hx | wp_step))
noncomputable def BaAt (a : Addr) (h : Heap) : Prop := ∃ b, h.get? a = some (baObj b)
theorem ba_at {h₀ h : Heap} {L : Addr} {news : List (Addr × Obj)} (N : News h₀ L h news) (hm : (a, baObj b) ∈ news) : BaAt a h := ⟨_, (N _ hm).1⟩
theorem list_at {h₀ h : Heap} {L l : Addr} {news : List (Addr × Obj)} {vs : Array Value} {n : Nat} (N : News h₀ L h news) (hm : (l, listOf vs n) ∈ news) : KitAt l "list" h := ⟨_, (N _ hm).1, rfl⟩
theorem kit_ba {K : Frag} : KitX K (.ref a) (.type "bytearray") (BaAt a) :=
  kitx_of (fun M h ⟨_, e⟩ => (Looks.ld (M := M) e).andThen .now) (fun {_ _ _ _ _ s} p k => by obtain ⟨h, g, d, t, os⟩ := s; obtain ⟨b, e⟩ := p; exact ba_class e k)
end
end
section
theorem filled4 (w : World) (_ : hd.heap_39 w.params = hd.heap_39 w.params) (_ : PySem.Challenge.rw_ll0027_01 = PySem.Challenge.rw_ll0027_01) : PySem.Challenge.rw_ll0027_01.row.prog = PySem.Challenge.rw_ll0027_01.row.prog ∧ hd.heap_39 w.params = hd.heap_39 w.params := by
  k_fill
  exact ⟨rfl, rfl⟩
/-- one octet's remainder, as a natural number -/
noncomputable def bitN (o r : Nat) : Nat → Nat
  | 0 => r
  | n + 1 => let q := bitN o r n; (q / 2) ^^^ (2197175160 * ((q ^^^ (o / 2 ^ n)) % 2))
theorem bitsN_nat (o r : Nat) : ∀ n, bitsN (o : Int) (r : Int) n = ((bitN o r n : Nat) : Int)
  | 0 => rfl
  | n + 1 => by
    show bitStep (o : Int) (bitsN (o : Int) (r : Int) n) (n : Int) = _
    rw [bitsN_nat o r n, bitStep_nat]; rfl
noncomputable def tab : List Int := (List.range 256).map fun i => ((bitN i 0 8 : Nat) : Int)
theorem eq_ints {l : List Value} {ns ns' : List Int} (i : IntsAre l ns) (e : ns = ns') : IntsAre l ns' := e ▸ i
theorem tab_K (w : World) : ∃ l n, (hd.heap_39 w.params).lookup 15 = some ⟨.type "tuple", none, .seq (List.toArray l) n, #[]⟩ ∧ IntsAre l tab := by
  apply Exists.intro
  apply Exists.intro
  apply And.intro
  · k_is
  · apply eq_ints
    · l_ints
    · unfold tab; decide +kernel
end
section
theorem offC3 : True := by
  w_top off
  exact True.intro
local macro_rules | `(tactic| walk_at "exec For Name Name cons nil") => `(tactic| refine' halt ?_)
local macro_rules | `(tactic| walk_at "exec For Name Call cons nil") => `(tactic| refine' halt ?_)
local macro_rules | `(tactic| walk_at "eval Name") => `(tactic| walk_at "my ld")
local macro_rules | `(tactic| walk_at "pyIter ref") => `(tactic| refine' halt ?_)
local macro_rules | `(tactic| walk_at "my mem") => `(tactic| first | assumption | exact List.mem_cons_self .. | (refine' List.mem_cons_of_mem _ ?_; walk_at "my mem") | (refine' List.mem_append_right _ ?_; walk_at "my mem"))
local macro_rules | `(tactic| walk_at "call builtin:isinstance") => `(tactic| (k_here; (rename News _ _ _ _ => kN); k_dflt (refine' kia_tup kit_ba ?X ?H ?p ?ee ?nb ?_; (case H => (refine' ba_at kN ?hm; (case hm => walk_at "my mem"))); (case X => k_in); (case p => kit_tp); (case ee => kit_is); (case nb => kit_nb); k_whole; intro _)))
local macro_rules | `(tactic| walk_at "call builtin:isinstance") => `(tactic| (k_here; (rename News _ _ _ _ => kN); k_dflt (refine' kia_tup kitx_list ?X ?H ?p ?ee ?nb ?_; (case H => (refine' list_at kN ?hm; (case hm => walk_at "my mem"))); (case X => k_in); (case p => kit_tp); (case ee => kit_is); (case nb => kit_nb); k_whole; intro _)))
theorem filled3 (w : World) (_ : hd.heap_39 w.params = hd.heap_39 w.params) (_ : PySem.Challenge.rw_ll0027_01 = PySem.Challenge.rw_ll0027_01) : PySem.Challenge.rw_ll0027_01.row.prog = PySem.Challenge.rw_ll0027_01.row.prog ∧ hd.heap_39 w.params = hd.heap_39 w.params := by
  k_fill
  exact ⟨rfl, rfl⟩
noncomputable def updStep (c b : Int) : Int := Builtin.bitAnd (Builtin.bitXor (tab.getD (Builtin.bitAnd (Builtin.bitXor c b) 255).toNat 0) (c.fdiv (2 ^ Int.toNat 8))) 4294967295
noncomputable def updN (c : Int) (ns : List Int) : Int := Builtin.bitXor (ns.foldl updStep (Builtin.bitXor c 4294967295)) 4294967295
theorem updStep_range (c b : Int) : 0 ≤ updStep c b ∧ updStep c b < 2 ^ 32 := by
  unfold updStep
  rw [bitAnd_m32]; omega
/-- octets in some shape -/
inductive Octs (news : List (Addr × Obj)) : Value → List Int → Prop
  | bytes (b : Array UInt8) (t : Tok) : Octs news (.bytes b t) (octs b)
  | ba {a : Addr} {b : Array UInt8} : (a, baObj b) ∈ news → Octs news (.ref a) (octs b)
  | list {l : Addr} {vs : List Value} {ns : List Int} {c : Nat} : (l, listOf vs.toArray c) ∈ news → IntsAre vs ns → (∀ n ∈ ns, 0 ≤ n ∧ n < 256) → vs.length ≤ sizeLine → Octs news (.ref l) ns
section
variable {w : World} {A₀ A : Around} {s : Shared} {base h₀ : Heap} {outer : List Env} {L : Addr} {m mg mb : Str → Option Value} {env : Env} {news : List (Addr × Obj)} {mean : ExcName → Option Value}
  {Q : Value → Shared → Prop} {E : Value → Shared → Prop}
theorem tab_item {value slice : PySem.Expr} {k : Int} {u : Tok} (F : Fr h₀ L s.heap m) (X₀ : (hd.heap_39 w.params).In h₀) (h0 : 0 ≤ k) (h1 : k < 256) (h : ∀ t, Q (.int (tab.getD k.toNat 0) t) s)
    (hs : subscripted slice false (.ref 15) (.int k u) = operate [.ref 15, .int k u] (getItem (.ref 15) (.int k u))) :
    wpAny (model PySem.Challenge.rw_ll0027_01.row.prog w) A (subscriptTail value slice (.ref 15) (.int k u)) Q E s := by
  obtain ⟨l, n, hl, hi⟩ := tab_K w
  refine item_anyT (tupK (X₀.keeps F.keep) hl) hi h0 ?_ (by omega) h hs
  rw [show tab.length = 256 by unfold tab; simp]; exact h1
structure NxtW (P : Shared → Prop) (f : Flow) (s : Shared) : Prop where
  go : f = .next ∧ P s
theorem execs_cut {M : Model} {A : Around} {E : Value → Shared → Prop} {s : Shared} {env : Env} {st : Stmt} {rest : List Stmt} {Q : Flow → Shared → Prop} (P : Shared → Prop)
    (h1 : wpAny M A (exec st env) (NxtW P) E s) (h2 : ∀ s', P s' → wpAny M A (execs rest env) Q E s') : wpAny M A (execs (st :: rest) env) Q E s := by
  refine wpAny_execs_cons (wpAny_mono h1 (fun f s' h => ?_) fun _ _ e => e)
  obtain ⟨rfl, hp⟩ := h.go
  exact h2 s' hp
theorem fr_ext {h₀ h h' : Heap} {L : Addr} {m : Str → Option Value} (F : Fr h₀ L h m) (hk : ∀ b o, h.get? b = some o → h'.get? b = some o) : Fr h₀ L h' m := ⟨F.ns.at' fun o e => hk _ o e, fun b o e => hk b o (F.keep b o e), F.above⟩
theorem news_ext {h₀ h h' : Heap} {L : Addr} {news : List (Addr × Obj)} (N : News h₀ L h news) (hk : ∀ b o, h.get? b = some o → h'.get? b = some o) : News h₀ L h' news := fun p hp => ⟨hk _ _ (N p hp).1, (N p hp).2⟩
theorem octs_at {b : Array UInt8} {i : Nat} {c : UInt8} (h : b[i]? = some c) : (octs b)[i]? = some (c.toNat : Int) := by
  unfold octs
  rw [List.getElem?_map]
  have : b.toList[i]? = some c := by simpa using h
  rw [this]; rfl
theorem octs_len (b : Array UInt8) : (octs b).length = b.size := by unfold octs; simp
theorem octs_range (b : Array UInt8) : ∀ n ∈ octs b, 0 ≤ n ∧ n < 256 := fun n hn => by
  unfold octs at hn
  obtain ⟨c, _, rfl⟩ := List.mem_map.mp hn
  have := c.toNat_lt
  omega
theorem octs_byteArr : ∀ {ns : List Int}, (∀ n ∈ ns, 0 ≤ n ∧ n < 256) → octs (byteArr ns) = ns
  | [], _ => rfl
  | n :: ns, h => by
    have ih := octs_byteArr (ns := ns) fun x hx => h x (.tail _ hx)
    have h1 := h n (.head _)
    unfold octs byteArr at ih ⊢
    simp only [List.map_cons, List.map_map] at ih ⊢
    congr 1
    show ((n.toNat.toUInt8).toNat : Int) = n
    have : n.toNat.toUInt8.toNat = n.toNat := by simp [Nat.toUInt8]; omega
    rw [this]; omega
theorem xor_range {c : Int} (h0 : 0 ≤ c) (h1 : c < 2 ^ 32) : 0 ≤ Builtin.bitXor c 4294967295 ∧ Builtin.bitXor c 4294967295 < 2 ^ 32 := by
  obtain ⟨n, rfl⟩ := Int.eq_ofNat_of_zero_le h0
  have e : (4294967295 : Int) = ((4294967295 : Nat) : Int) := rfl
  rw [e, xor_nat]
  have : n ^^^ 4294967295 < 2 ^ 32 := Nat.xor_lt_two_pow (by omega) (by decide)
  omega
theorem buf_bytes {h₀ h : Heap} {L : Addr} {m : Str → Option Value} (_ : Fr h₀ L h m) (b : Array UInt8) (t : Tok) : Buf h (.bytes b t) b := .bytes b t
theorem buf_of {h₀ h : Heap} {L : Addr} {news : List (Addr × Obj)} {a : Addr} {b : Array UInt8} (N : News h₀ L h news) (hm : (a, baObj b) ∈ news) : Buf h (.ref a) b := .ba (N _ hm).1
theorem buf_mem {h₀ h : Heap} {L : Addr} {news : List (Addr × Obj)} {y : Value} {b : Array UInt8} (N : News h₀ L h news) (hy : (∃ t, y = .bytes b t) ∨ ∃ a, y = .ref a ∧ (a, baObj b) ∈ news) : Buf h y b := by
  rcases hy with ⟨t, rfl⟩ | ⟨a, rfl, ha⟩
  · exact .bytes b t
  · exact buf_of (a := a) (b := b) N ha
theorem mask_range (x : Int) : 0 ≤ Builtin.bitAnd x 255 ∧ Builtin.bitAnd x 255 < 256 := by rw [bitAnd_m8]; omega
theorem list_in {h₀ h : Heap} {L l : Addr} {news : List (Addr × Obj)} {vs : List Value} {n : Nat} (N : News h₀ L h news) (hm : (l, listOf vs.toArray n) ∈ news) : h.IsList l vs.toArray := ⟨_, (N _ hm).1, rfl, _, rfl⟩
local macro_rules | `(tactic| walk_at "subscriptTail") => `(tactic| (k_here; k_dflt (refine' tab_item ?F ?X ?k3 ?k4 ?_ ?hs; (case F => k_asm); (case X => k_asm); (case k3 => exact (mask_range _).1); (case k4 => exact (mask_range _).2); (case hs => with_unfolding_all rfl); k_whole; intro _)))
theorem ldN {M : Model} {A : Around} {E : Value → Shared → Prop} {s : Shared} {h₀ : Heap} {L a : Addr} {name x : Str} {scope : Scope} {cd : Value} {m : Str → Option Value} {v : Value} {Q : Value → Shared → Prop} (F : Fr h₀ L s.heap m) (hv : m x = some v) (h : Q v s)
    (hk : scope.kind = .function := by rfl) (hl : (envOf name scope L a cd).kindOf x = some .local := by rfl) : wpAny M A (loadName (envOf name scope L a cd) x) Q E s := wpAny_loadName_local hk hl F.ns hv h
local macro_rules | `(tactic| walk_at "loadName") => `(tactic| (k_here; k_dflt (refine' ldN ?k1 ?k2 ?_; (case k1 => k_asm); (case k2 => assumption); k_whole)))
set_option maxHeartbeats 4000000 in
theorem upd_c (C : Cx w A h₀ L) (F : Fr h₀ L s.heap m) (N : News h₀ L s.heap news) (hh : A.handled = none) (hroom : A.depth < recursionLimit) {c : Int} {u : Tok} {x : Value} {ns : List Int} (hx : Octs news x ns)
    (hc1 : 0 ≤ c) (hc2 : c < 2 ^ 32)
    (k : ∀ h' tk t' n news', n = updN c ns → (∀ p ∈ news, p ∈ news') → Fr h₀ L h' m → News h₀ L h' news' → Q (.int n t') { s with heap := h', toks := tk }) :
    wpAny (model PySem.Challenge.rw_ll0027_01.row.prog w) A (call (.ref 23) [.int c u, x]) Q E s := by
  obtain ⟨A₀, base, outer, env, mg, mb, mean, B, X₀, T, hA, hf, hke⟩ := C.go
  have X₁ := X₀.keeps F.keep
  refine wpAny_call ?_
  k_dflt (refine' code_def B F X₀ N T hA hf hke ?k6 ?k7 hroom ?k9 ?kB ?_ ?c2 ?c3 ?c4 ?c5)
  walk_at "my enter"
  intro g' L' h' FG' F' N' B' X' T'
  (try dsimp only)
  clear hA hf hke hroom F X₀ N T C B X₁
  refine execs_cut (fun s2 => ∃ h2 tk mm y b news2, s2 = { s with heap := h2, toks := tk } ∧ Fr g' L' h2 mm ∧ News g' L' h2 news2 ∧ (∀ p ∈ news, p ∈ news2) ∧ ((∃ t, y = .bytes b t) ∨ ∃ a, y = .ref a ∧ (a, baObj b) ∈ news2) ∧ octs b = ns ∧
    mm (Str.ofString "buf") = some y ∧ (∃ t, mm (Str.ofString "crc") = some (.int c t)) ∧ (∃ t, mm (Str.ofString "_M") = some (.int 4294967295 t)) ∧ mm (Str.ofString "_TABLE") = some (.ref 15)) ?_ ?_
  · refine wpAny_gen fun QQ EE hQQ _ => ?_
    obtain ⟨nt, hnt, hx⟩ : ∃ nt, nt = ns ∧ Octs news x nt := ⟨ns, rfl, hx⟩
    rcases hx with ⟨b, t⟩ | @⟨a, b, ha⟩ | @⟨l, vs, nt, _, hl, hi, hr, hz⟩
    case' list =>
      k_steps
      rename News _ _ _ _ => N2
      have hl2 := list_in N2 (List.mem_cons_of_mem _ hl)
      rename Fr _ _ _ _ => F2
      refine call_bytes_ints hl2 hi hr hz hh fun h3 t3 k3 hk3 => ?_
      have F3 : Fr _ _ h3 _ := fr_ext F2 hk3
      have N3 : News _ _ h3 _ := news_ext N2 hk3
      clear F2 N2
    all_goals k_steps
    all_goals rename Fr _ _ _ _ => F2
    all_goals rename News _ _ _ _ => N2
    · exact hQQ _ _ ⟨rfl, _, _, _, _, _, _, rfl, F2, N2, fun p hp => List.mem_cons_of_mem _ hp, .inl ⟨t3, rfl⟩, (octs_byteArr hr).trans hnt, rfl, ⟨_, rfl⟩, ⟨_, rfl⟩, rfl⟩
    · exact hQQ _ _ ⟨rfl, _, _, _, _, _, _, rfl, F2, N2, fun p hp => List.mem_cons_of_mem _ hp, .inl ⟨t, rfl⟩, hnt, rfl, ⟨_, rfl⟩, ⟨_, rfl⟩, rfl⟩
    · exact hQQ _ _ ⟨rfl, _, _, _, _, _, _, rfl, F2, N2, fun p hp => List.mem_cons_of_mem _ hp, .inr ⟨a, rfl, List.mem_cons_of_mem _ ha⟩, hnt, rfl, ⟨_, rfl⟩, ⟨_, rfl⟩, rfl⟩
  rintro s2 ⟨h2, tk, mm, y, b, news2, rfl, F2, N2, hs2, hy, hbs, hmb, ⟨tc, hmc⟩, ⟨tm, hmM⟩, hmT⟩
  clear F' N' hx
  refine wpAny_gen fun QQ EE hQQ _ => ?_
  k_steps
  rename Fr _ _ _ _ => F5
  rename News _ _ _ _ => N5
  have hb := buf_mem N5 hy
  refine ⟨for_my g' (ld F5 hmb (src_buf hh F5 N5 hb fun I fp wr St h2 S st F3 N3 ni hfp => ⟨_, I, fp, wr, _, _, St, _, _,
    fun i m₁ news₁ => (∀ p ∈ news, p ∈ news₁) ∧ (∃ t, m₁ (Str.ofString "_M") = some (.int 4294967295 t)) ∧ m₁ (Str.ofString "_TABLE") = some (.ref 15) ∧ ∃ r t, m₁ (Str.ofString "crc") = some (.int r t) ∧ r = (ns.take i).foldl updStep (Builtin.bitXor c 4294967295) ∧ 0 ≤ r ∧ r < 2 ^ 32, rfl, S, st, F3, N3, ni, ?_, ?_, ?_⟩)) rfl rfl⟩
  · exact ⟨hs2, ⟨_, hmM⟩, hmT, _, _, rfl, rfl, xor_range hc1 hc2⟩
  · intro i v m₁ news₁ h₁ tk own hi1 hP hJ hn1 F4 N4 hown
    obtain ⟨hs, ⟨t4, hM⟩, hT, r, t5, hc, e, b1, b2⟩ := hJ
    obtain ⟨cc, uu, hcc, rfl⟩ := hP
    have hcc2 := octs_at hcc
    rw [hbs] at hcc2
    have hcb : (cc.toNat : Int) < 256 := by have := cc.toNat_lt; omega
    have hcb0 : 0 ≤ (cc.toNat : Int) := by omega
    generalize (cc.toNat : Int) = ci at *
    clear F5 N5 F3 N3 hb hmc hmM hmT hmb
    k_steps
    refine turn_of (by assumption) (by assumption) hn1 ?_
    · refine ⟨hs, ⟨t4, hM⟩, hT, _, _, rfl, ?_, updStep_range r ci⟩
      rw [take_snoc hcc2, List.foldl_append, ← e]; rfl
  · intro h2 tk m₁ news₁ F4 N4 ni hJ
    obtain ⟨hs, ⟨t4, hM⟩, hT, r, t5, hc, e, b1, b2⟩ := hJ
    rw [List.take_of_length_le (by rw [← hbs, octs_len]; exact Nat.le_refl _)] at e
    clear F5 N5 F3 N3 hb hmc hmM hmT hmb
    k_steps
    refine hQQ _ _ (leaveK_ (by assumption) (by assumption) fun F₁ N₁ => ?_)
    refine k _ _ _ _ _ ?_ hs F₁ N₁
    rw [e]; rfl
end
end
section
theorem offC5 : True := by
  w_top off
  exact True.intro
local macro_rules | `(tactic| walk_at "call ref") => `(tactic| refine' halt ?_)
theorem filled5 (w : World) (_ : hd.heap_39 w.params = hd.heap_39 w.params) (_ : PySem.Challenge.rw_ll0027_01 = PySem.Challenge.rw_ll0027_01) : PySem.Challenge.rw_ll0027_01.row.prog = PySem.Challenge.rw_ll0027_01.row.prog ∧ hd.heap_39 w.params = hd.heap_39 w.params := by
  k_fill
  exact ⟨rfl, rfl⟩
noncomputable def crcN (ns : List Int) : Int := Builtin.bitAnd (updN 0 ns) 4294967295
section
variable {w : World} {A₀ A : Around} {s : Shared} {base h₀ : Heap} {outer : List Env} {L : Addr} {m mg mb : Str → Option Value} {env : Env} {news : List (Addr × Obj)} {mean : ExcName → Option Value}
  {Q : Value → Shared → Prop} {E : Value → Shared → Prop}
set_option maxHeartbeats 4000000 in
theorem fin_c (C : Cx w A h₀ L) (F : Fr h₀ L s.heap m) (N : News h₀ L s.heap news) (hroom : A.depth < recursionLimit) {c : Int} {u : Tok}
    (k : ∀ h' tk t' n, n = Builtin.bitAnd c 4294967295 → Fr h₀ L h' m → News h₀ L h' news → Q (.int n t') { s with heap := h', toks := tk }) :
    wpAny (model PySem.Challenge.rw_ll0027_01.row.prog w) A (call (.ref 30) [.int c u]) Q E s := by
  obtain ⟨A₀, base, outer, env, mg, mb, mean, B, X₀, T, hA, hf, hke⟩ := C.go
  have X₁ := X₀.keeps F.keep
  refine wpAny_call ?_
  k_dflt (refine' code_def B F X₀ N T hA hf hke ?k6 ?k7 hroom ?k9 ?kB ?_ ?c2 ?c3 ?c4 ?c5)
  walk_at "my enter"
  intro g' L' h' FG' F' N' B' X' T'
  (try dsimp only)
  clear hA hf hke hroom F X₀ N T C B X₁
  k_steps
  refine leaveK_ (by assumption) (by assumption) fun F₁ N₁ => ?_
  exact k _ _ _ _ rfl F₁ N₁
set_option maxHeartbeats 4000000 in
theorem crc_c (C : Cx w A h₀ L) (F : Fr h₀ L s.heap m) (N : News h₀ L s.heap news) (hh : A.handled = none) (hroom : A.depth + 1 < recursionLimit) {x : Value} {ns : List Int} (hx : Octs news x ns)
    (k : ∀ h' tk t' n news', n = crcN ns → (∀ p ∈ news, p ∈ news') → Fr h₀ L h' m → News h₀ L h' news' → Q (.int n t') { s with heap := h', toks := tk }) :
    wpAny (model PySem.Challenge.rw_ll0027_01.row.prog w) A (call (.ref 37) [x]) Q E s := by
  obtain ⟨A₀, base, outer, env, mg, mb, mean, B, X₀, T, hA, hf, hke⟩ := C.go
  have X₁ := X₀.keeps F.keep
  refine wpAny_call ?_
  k_dflt (refine' code_def B F X₀ N T hA hf hke ?k6 ?k7 (Nat.lt_of_succ_lt hroom) ?k9 ?kB ?_ ?c2 ?c3 ?c4 ?c5)
  walk_at "my enter"
  intro g' L' h' FG' F' N' B' X' T'
  (try dsimp only)
  clear hf hke F X₀ N T C B X₁
  k_steps
  rename Fr _ _ _ _ => F2
  rename News _ _ _ _ => N2
  refine ⟨upd_c (Cx.deeper hA B' X' T' rfl rfl) F2 N2 hh hroom hx (by decide) (by decide) fun h3 tk3 t3 n3 news3 e3 hs3 F3 N3 => ?_⟩
  clear F2 N2
  k_steps
  rename Fr _ _ _ _ => F2
  rename News _ _ _ _ => N2
  refine ⟨fin_c (Cx.deeper hA B' X' T' rfl rfl) F2 N2 hroom fun h4 tk4 t4 n4 e4 F4 N4 => ?_⟩
  clear F2 N2
  k_steps
  refine leaveK_ (by assumption) (by assumption) fun F₁ N₁ => ?_
  exact k _ _ _ _ _ (by rw [e4, e3]; rfl) hs3 F₁ N₁
set_option maxHeartbeats 4000000 in
theorem calc_c (C : Cx w A h₀ L) (F : Fr h₀ L s.heap m) (N : News h₀ L s.heap news) (hh : A.handled = none) (hroom : A.depth + 2 < recursionLimit) {x : Value} {ns : List Int} (hx : Octs news x ns)
    (k : ∀ h' tk t' n news', n = crcN ns → (∀ p ∈ news, p ∈ news') → Fr h₀ L h' m → News h₀ L h' news' → Q (.int n t') { s with heap := h', toks := tk }) :
    wpAny (model PySem.Challenge.rw_ll0027_01.row.prog w) A (call (.ref 67) [x]) Q E s := by
  obtain ⟨A₀, base, outer, env, mg, mb, mean, B, X₀, T, hA, hf, hke⟩ := C.go
  have X₁ := X₀.keeps F.keep
  refine wpAny_call ?_
  k_dflt (refine' code_def B F X₀ N T hA hf hke ?k6 ?k7 (by omega) ?k9 ?kB ?_ ?c2 ?c3 ?c4 ?c5)
  walk_at "my enter"
  intro g' L' h' FG' F' N' B' X' T'
  (try dsimp only)
  clear hf hke F X₀ N T C B X₁
  k_steps
  rename Fr _ _ _ _ => F2
  rename News _ _ _ _ => N2
  refine ⟨crc_c (Cx.deeper hA B' X' T' rfl rfl) F2 N2 hh hroom hx fun h3 tk3 t3 n3 news3 e3 hs3 F3 N3 => ?_⟩
  clear F2 N2
  k_steps
  refine leaveK_ (by assumption) (by assumption) fun F₁ N₁ => ?_
  exact k _ _ _ _ _ e3 hs3 F₁ N₁
end
end
section
theorem offC6 : True := by
  w_top off
  exact True.intro
local macro_rules | `(tactic| walk_at "exec For Name Subscript cons nil") => `(tactic| refine' halt ?_)
local macro_rules | `(tactic| walk_at "exec For Name Call cons nil") => `(tactic| refine' halt ?_)
local macro_rules | `(tactic| walk_at "eval Name") => `(tactic| walk_at "my ld")
local macro_rules | `(tactic| walk_at "pyIter ref") => `(tactic| refine' halt ?_)
local macro_rules | `(tactic| walk_at "call type:reversed") => `(tactic| refine' halt ?_)
theorem filled6 (w : World) (_ : hd.heap_39 w.params = hd.heap_39 w.params) (_ : PySem.Challenge.rw_ll0027_01 = PySem.Challenge.rw_ll0027_01) : PySem.Challenge.rw_ll0027_01.row.prog = PySem.Challenge.rw_ll0027_01.row.prog ∧ hd.heap_39 w.params = hd.heap_39 w.params := by
  k_fill
  exact ⟨rfl, rfl⟩
theorem news_dup {h₀ h : Heap} {L : Addr} {news : List (Addr × Obj)} {p : Addr × Obj} (N : News h₀ L h news) (hp : p ∈ news) : News h₀ L h (p :: news) := fun q hq => by
  rcases List.mem_cons.mp hq with rfl | hq
  · exact N _ hp
  · exact N _ hq
theorem upd_own {d : Addr} {o o' : Obj} {r r' : List (Addr × Obj)} : ∀ {own : List (Addr × Obj)}, (∀ p ∈ own, p.1 ≠ d) → Upd d o o' r r' → Upd d o o' (own ++ r) (own ++ r')
  | [], _, u => u
  | p :: own, h, u => .tail (h p (.head _)) (upd_own (own := own) (fun q hq => h q (.tail _ hq)) u)
theorem turn_brk {c : Addr} {h₀ : Heap} {L : Addr} {own : List (Addr × Obj)} {J : (Str → Option Value) → List (Addr × Obj) → Prop} {s₁ s₂ : Shared} {Q : Flow → Shared → Prop} (h : Q .next s₂) : Turn c h₀ L own J s₁ Q .brk s₂ := h
theorem allLt_mem {d : Addr} {l : List (Addr × Obj)} (h : AllLt d l) (p : Addr × Obj) (hp : p ∈ l) : p.1 ≠ d := by
  induction l with
  | nil => cases hp
  | cons q l ih =>
    rcases List.mem_cons.mp hp with e | hp
    · subst e; exact Nat.ne_of_lt h.1
    · exact ih h.2 hp
theorem snoc_ints {ds : List Value} {ms : List Int} {n : Int} {t : Tok} (h : IntsAre ds ms) : IntsAre (ds ++ [.int n t]) (ms ++ [n]) := h.append (.cons n t .nil)
noncomputable def dig : List Int → List Int
  | [] => []
  | o :: r => if o < 128 then [o] else o :: dig r
theorem dig_stop : ∀ {ms : List Int} {i : Nat} {n : Int}, (∀ x ∈ ms.take i, ¬ x < 128) → ms[i]? = some n → n < 128 → dig ms = ms.take (i + 1)
  | o :: r, 0, n, _, e, h => by
    cases e
    unfold dig
    rw [if_pos h]; rfl
  | o :: r, i + 1, n, ha, e, h => by
    unfold dig
    rw [if_neg (ha o (by simp))]
    rw [dig_stop (ms := r) (i := i) (fun x hx => ha x (by simp [hx])) e h]; rfl
theorem dig_all : ∀ {ms : List Int}, (∀ x ∈ ms, ¬ x < 128) → dig ms = ms
  | [], _ => rfl
  | o :: r, ha => by
    unfold dig
    rw [if_neg (ha o (.head _)), dig_all fun x hx => ha x (.tail _ hx)]
theorem dig_len : ∀ ms : List Int, (dig ms).length ≤ ms.length
  | [] => Nat.le_refl _
  | o :: r => by
    unfold dig
    split
    · simp
    · simp only [List.length_cons]; have := dig_len r; omega
noncomputable def win (ns : List Int) (a : Int) : List Int := (ns.drop a.toNat).take 10
theorem take_min {α : Type} (l : List α) (b a : Nat) : (l.drop a).take (min b l.length - a) = (l.drop a).take (b - a) := by
  rw [List.take_eq_take_iff, List.length_drop]
  rcases Nat.le_total b l.length with h | h
  · rw [Nat.min_eq_left h]
  · rw [Nat.min_eq_right h, Nat.min_self, Nat.min_eq_right (Nat.sub_le_sub_right h a)]
theorem win_eq {ns : List Int} {a : Int} (h0 : 0 ≤ a) (h1 : a ≤ ns.length) : List.take (min (a + 10).toNat ns.length - a.toNat) (List.drop a.toNat ns) = win ns a := by
  unfold win
  rw [take_min, show (a + 10).toNat - a.toNat = 10 by omega]
noncomputable def revVal (l : List Int) : Int := l.foldl (fun v o => 128 * v + o.fmod 128) 0
theorem revVal_snoc (l : List Int) (o : Int) : revVal (l ++ [o]) = 128 * revVal l + o.fmod 128 := by unfold revVal; rw [List.foldl_append]; rfl
theorem pow128 {i j : Nat} (h : i ≤ j) : (128 : Int) ^ i ≤ 128 ^ j := by
  have := Nat.pow_le_pow_right (n := 128) (by decide) h
  exact_mod_cast this
inductive Due
  | long | stop | aside | pair (v e : Int)
noncomputable def dueD (dg : List Int) (a : Int) : Due :=
  if dg = [] ∨ 128 ≤ dg.getD (-1 + (dg.length : Int)).toNat 0 then (if (dg.length : Int) = 10 then .long else .stop)
  else if 18446744073709551616 ≤ revVal dg.reverse then .aside
  else .pair (if (revVal dg.reverse).fmod 2 = 0 then (revVal dg.reverse).fdiv 2 else -((revVal dg.reverse + 1).fdiv 2)) (a + dg.length)
noncomputable abbrev tup (xs : List Value) : Obj := { cls := .type "tuple", data := .seq xs.toArray }
inductive DueIs (news : List (Addr × Obj)) : Value → Due → Prop
  | long (t : Tok) : DueIs news (.str (Str.ofString "long") t) .long
  | stop (t : Tok) : DueIs news (.str (Str.ofString "end") t) .stop
  | aside (t : Tok) : DueIs news (.str (Str.ofString "aside") t) .aside
  | pair {a : Addr} {v e : Int} {t u : Tok} : (a, tup [.int v t, .int e u]) ∈ news → DueIs news (.ref a) (.pair v e)
theorem revVal_range {l : List Int} : ∀ i, 0 ≤ revVal (l.take i) ∧ revVal (l.take i) < 128 ^ i
  | 0 => by simp [revVal]
  | i + 1 => by
    have ih := revVal_range (l := l) i
    cases h : l[i]? with
    | none =>
      rw [List.take_add_one, h]
      simp only [Option.toList_none, List.append_nil]
      have : (128 : Int) ^ (i + 1) = 128 ^ i * 128 := Int.pow_succ ..
      omega
    | some o =>
      rw [List.take_add_one, h]
      simp only [Option.toList_some]
      rw [revVal_snoc]
      have : (128 : Int) ^ (i + 1) = 128 ^ i * 128 := Int.pow_succ ..
      have h1 : 0 ≤ o.fmod 128 := Int.fmod_nonneg_of_pos _ (by decide)
      have h2 : o.fmod 128 < 128 := Int.fmod_lt_of_pos _ (by decide)
      omega
section
variable {w : World} {A₀ A : Around} {s : Shared} {base h₀ : Heap} {outer : List Env} {L : Addr} {m mg mb : Str → Option Value} {env : Env} {news : List (Addr × Obj)} {mean : ExcName → Option Value}
  {Q : Value → Shared → Prop} {E : Value → Shared → Prop}
set_option maxHeartbeats 4000000 in
theorem due_c (C : Cx w A h₀ L) (F : Fr h₀ L s.heap m) (N : News h₀ L s.heap news) (hh : A.handled = none) (hroom : A.depth < recursionLimit) (hun : A.units ≤ 1000) {l : Addr} {vs : List Value} {ns : List Int} {c : Nat} (hl : (l, listOf vs.toArray c) ∈ news) (hi : IntsAre vs ns)
    (ho : ∀ n ∈ ns, 0 ≤ n ∧ n < 256) (hz : ns.length ≤ 1000) {at₀ : Int} {u : Tok} (h0 : 0 ≤ at₀) (h1 : at₀ ≤ ns.length)
    (k : ∀ h' tk x news', (∀ p ∈ news, p ∈ news') → DueIs news' x (dueD (dig (win ns at₀)) at₀) → Fr h₀ L h' m → News h₀ L h' news' → Q x { s with heap := h', toks := tk }) :
    wpAny (model PySem.Challenge.rw_ll0027_01.row.prog w) A (call (.ref 81) [.ref l, .int at₀ u]) Q E s := by
  obtain ⟨A₀, base, outer, env, mg, mb, mean, B, X₀, T, hA, hf, hke⟩ := C.go
  have X₁ := X₀.keeps F.keep
  have N0 := news_dup N hl
  clear N
  refine wpAny_call ?_
  k_dflt (refine' code_def B F X₀ N0 T hA hf hke ?k6 ?k7 hroom ?k9 ?kB ?_ ?c2 ?c3 ?c4 ?c5)
  walk_at "my enter"
  intro g' L' h' FG' F' N' B' X' T'
  (try dsimp only)
  clear hf hke F X₀ T C B X₁ N0 hA
  refine wpAny_gen fun QQ EE hQQ _ => ?_
  k_steps
  refine ⟨wpAny_mono (Q := fun f s' => f = .next ∧ ∃ h' tk m' d D ws ds kk, s' = { s with heap := h', toks := tk } ∧ Fr g' L' h' m' ∧ News g' L' h' ((D, listOf (List.toArray ws) 0) :: (d, listOf (List.toArray ds) kk) :: (l, listOf vs.toArray c) :: news) ∧ IntsAre ds (dig (win ns at₀)) ∧ m' (Str.ofString "digits") = some (.ref d) ∧ m' (Str.ofString "at") = some (.int at₀ u)) ?_ (fun f s' e => ?_) fun _ _ e => e⟩
  · refine for_my g' ?_ rfl rfl
    k_steps
    rename_i d hA2 hA3 tkA D ws hB F2 N2 hI hC hL lB
    rw [win_eq h0 h1] at hI
    have hl2 := list_in N2 (List.mem_cons_self ..)
    refine ⟨src_list hh F2 N2 hl2 fun I fp wr St h2 S st F3 N3 ni hfp => ⟨_, I, fp, wr, _, _, St, _, _,
      fun i m₁ news₁ => ∃ ds kk, news₁ = ((D, listOf (List.toArray ws) 0) :: (d, listOf (List.toArray ds) kk) :: (l, listOf vs.toArray c) :: news) ∧ IntsAre ds ((win ns at₀).take i) ∧ (∀ x ∈ (win ns at₀).take i, ¬ x < 128) ∧ m₁ (Str.ofString "digits") = some (.ref d) ∧ m₁ (Str.ofString "at") = some (.int at₀ u), rfl, S, st, F3, N3, ni, ?_, ?_, ?_⟩⟩
    · exact ⟨[], _, rfl, .nil, fun x hx => by simp at hx, rfl, rfl⟩
    · intro i v m₁ news₁ h₁ tk own hi1 hP hJ hn1 F4 N4 hown
      obtain ⟨ds, kk, rfl, hds, hge, hmd, hma⟩ := hJ
      obtain ⟨n, t4, hn, rfl⟩ := ints_at hI hP
      have hdc : d ≠ D := Nat.ne_of_lt lB.1
      have hdn : ∀ p ∈ own, p.1 ≠ d := fun p hp e => by
        rcases hfp _ (hown p hp) with q | q
        · exact hdc (e.symm.trans q)
        · exact absurd (Heap.lt_size (N2 _ (.tail _ (.head _))).1) (Nat.not_lt.mpr (e ▸ q))
      have hU : ∀ o', Upd d (listOf ds.toArray kk) o' (own ++ ((D, listOf ws.toArray 0) :: (d, listOf ds.toArray kk) :: (l, listOf vs.toArray c) :: news)) (own ++ ((D, listOf ws.toArray 0) :: (d, o') :: (l, listOf vs.toArray c) :: news)) := fun o' =>
        upd_own hdn (.tail (Ne.symm hdc) (.head fun p hp => by
          rcases List.mem_cons.mp hp with rfl | hp
          · exact Nat.ne_of_lt hA3.1
          · exact allLt_mem hA3.2 p hp))
      have hlen : ds.length ≤ 10 := by rw [← ints_len hds, List.length_take]; unfold win; rw [List.length_take]; omega
      clear F2 N2 F3 N3
      k_steps
      rename Fr _ _ _ _ => F5
      rename News _ _ _ _ => N5
      refine append_K F5 N5 (hU _) (fun h6 F6 N6 => ?_) (by rw [List.size_toArray]; exact Nat.le_trans hlen (by decide))
      rw [show ds.toArray.push (Value.int n t4) = (ds ++ [Value.int n t4]).toArray by simp] at N6
      clear F5 N5
      have hds' := snoc_ints (n := n) (t := t4) hds
      rw [← take_snoc hn] at hds'
      k_steps
      · refine turn_brk ⟨rfl, _, _, _, d, D, ws, ds ++ [Value.int n t4], _, rfl, F6, fun p hp => N6 p (List.mem_append_right _ hp), ?_, hmd, hma⟩
        rw [dig_stop hge hn (by assumption)]; exact hds'
      · refine turn_of F6 N6 ?_ ⟨ds ++ [Value.int n t4], _, rfl, hds', ?_, hmd, hma⟩
        · intro p hp
          rcases List.mem_cons.mp hp with rfl | hp
          · exact .inl rfl
          · rcases List.mem_cons.mp hp with rfl | hp
            · exact .inl rfl
            · exact hn1 p (.tail _ (.tail _ hp))
        · intro x hx
          rw [take_snoc hn] at hx
          rcases List.mem_append.mp hx with hx | hx
          · exact hge x hx
          · rw [List.mem_singleton.mp hx]; assumption
    · intro h2 tk m₁ news₁ F4 N4 ni hJ
      obtain ⟨ds, kk, rfl, hds, hge, hmd, hma⟩ := hJ
      rw [List.take_of_length_le (by rw [ints_len hI]; exact Nat.le_refl _)] at hds hge
      exact ⟨rfl, _, _, _, _, _, _, _, _, rfl, F4, N4, by rw [dig_all hge]; exact hds, hmd, hma⟩
  · obtain ⟨rfl, h2, tk, m', d, D, ws, ds, kk, rfl, F2, N2, hds, hmd, hma⟩ := e
    have hdl : (dig (win ns at₀)).length ≤ 10 := Nat.le_trans (dig_len _) (by unfold win; rw [List.length_take]; omega)
    generalize hdg : dig (win ns at₀) = dg at *
    by_cases hne : dg = []
    · subst hne
      k_steps
      refine hQQ _ _ (leaveK_ (by assumption) (by assumption) fun F₁ N₁ => ?_)
      refine k _ _ _ _ ?_ ?_ F₁ N₁
      · intro p hp; exact .tail _ (.tail _ (.tail _ (.tail _ hp)))
      · exact .stop _
    · have hlt : 0 < dg.length := by cases dg with | nil => exact absurd rfl hne | cons _ _ => simp
      k_steps
      · refine hQQ _ _ (leaveK_ (by assumption) (by assumption) fun F₁ N₁ => ?_)
        refine k _ _ _ _ ?_ ?_ F₁ N₁
        · intro p hp; exact .tail _ (.tail _ (.tail _ (.tail _ hp)))
        · rw [dueD, if_pos (.inr (by assumption)), if_pos (by assumption)]; exact .long _
      · refine hQQ _ _ (leaveK_ (by assumption) (by assumption) fun F₁ N₁ => ?_)
        refine k _ _ _ _ ?_ ?_ F₁ N₁
        · intro p hp; exact .tail _ (.tail _ (.tail _ (.tail _ hp)))
        · rw [dueD, if_pos (.inr (by assumption)), if_neg (by assumption)]; exact .stop _
      · have hnl : ¬ (dg = [] ∨ 128 ≤ dg.getD (-1 + (dg.length : Int)).toNat 0) := by
          intro h
          rcases h with h | h
          · exact hne h
          · first | exact absurd h (by assumption) | omega
        rename Fr _ _ _ _ => F5
        rename News _ _ _ _ => N5
        refine ⟨for_my g' ?_ rfl rfl⟩
        k_steps
        rename News _ _ _ _ => N5
        rename Fr _ _ _ _ => F5
        have hlD := list_in (l := d) (vs := ds) N5 (.tail _ (.tail _ (.head _)))
        refine ⟨src_rev hh F5 N5 hlD fun I fp wr St h2 S st F3 N3 ni hfp => ⟨_, I, fp, wr, _, _, St, _, _,
          fun i m₁ news₁ => (∃ E₀, news₁ = (E₀, listOf #[] 0) :: (D, listOf (List.toArray ws) 0) :: (d, listOf (List.toArray ds) kk) :: (l, listOf vs.toArray c) :: news) ∧ (∃ v t, m₁ (Str.ofString "value") = some (.int v t) ∧ v = revVal (dg.reverse.take i)) ∧ m₁ (Str.ofString "digits") = some (.ref d) ∧ m₁ (Str.ofString "at") = some (.int at₀ u), rfl, S, st, F3, N3, ni, ?_, ?_, ?_⟩⟩
        · exact ⟨⟨_, rfl⟩, ⟨_, _, rfl, rfl⟩, hmd, hma⟩
        · intro i v m₁ news₁ h₁ tk own hi1 hP hJ hn1 F4 N4 hown
          obtain ⟨⟨E₀, rfl⟩, ⟨r, t, hmv, e⟩, hmd, hma⟩ := hJ
          obtain ⟨n, t4, hn, rfl⟩ := ints_at hds.reverse hP
          have hv := revVal_range (l := dg.reverse) i
          rw [← e] at hv
          have hi9 : i ≤ 9 := by have := ints_len hds; omega
          have hv2 : r < 2 ^ 63 := Int.lt_of_lt_of_le hv.2 (by rw [show (2 : Int) ^ 63 = 128 ^ 9 by decide]; exact pow128 hi9)
          obtain ⟨hv1, _⟩ := hv
          have ho2 := ho
          clear F3 N3 F5 N5
          k_steps
          refine turn_of (by assumption) (by assumption) hn1 ?_
          refine ⟨⟨_, rfl⟩, ⟨_, _, rfl, ?_⟩, hmd, hma⟩
          rw [take_snoc hn, revVal_snoc, e]
        · intro h2 tk m₁ news₁ F4 N4 ni hJ
          obtain ⟨⟨E₀, rfl⟩, ⟨r, t, hmv, e⟩, hmd, hma⟩ := hJ
          have hv := revVal_range (l := dg.reverse) ds.length
          have hv' := hv
          rw [List.take_of_length_le (by rw [List.length_reverse, ints_len hds]; exact Nat.le_refl _)] at e hv
          rw [← e] at hv
          have hv2 : r < 2 ^ 70 := Int.lt_of_lt_of_le hv.2 (by rw [show (2 : Int) ^ 70 = 128 ^ 10 by decide]; exact pow128 (by have := ints_len hds; omega))
          obtain ⟨hv1, _⟩ := hv
          clear F3 N3 F5 N5
          k_steps
          all_goals refine hQQ _ _ (leaveK_ (by assumption) (by assumption) fun F₁ N₁ => ?_)
          all_goals refine k _ _ _ _ ?_ ?_ F₁ N₁
          · intro p hp; exact .tail _ (.tail _ (.tail _ (.tail _ hp)))
          · rw [dueD, if_neg hnl, ← e, if_pos (by assumption)]; exact .aside _
          · intro p hp; exact .tail _ (.tail _ (.tail _ (.tail _ (.tail _ hp))))
          · rw [dueD, if_neg hnl, ← e, if_neg (by assumption), if_pos (by assumption)]; exact .pair (.head _)
          · intro p hp; exact .tail _ (.tail _ (.tail _ (.tail _ (.tail _ hp))))
          · rw [dueD, if_neg hnl, ← e, if_neg (by assumption), if_neg (by assumption)]; exact .pair (.head _)
end
end
section
theorem offC7 : True := by
  w_top off
  exact True.intro
local macro_rules | `(tactic| walk_at "exec While Constant cons nil") => `(tactic| refine' halt ?_)
local macro_rules | `(tactic| walk_at "exec While") => `(tactic| refine' halt ?_)
local macro_rules | `(tactic| walk_at "eval Name") => `(tactic| walk_at "my ld")
local macro_rules | `(tactic| walk_at "loadName") => `(tactic| (k_here; k_dflt (refine' ldN ?k1 ?k2 ?_; (case k1 => k_asm); (case k2 => assumption); k_whole)))
theorem wpAny_genQ {T : Type} {M : Model} {A : Around} {t : Sem T} {s : Shared} {Q : T → Shared → Prop} {E : Value → Shared → Prop}
    (h : ∀ (Q' : T → Shared → Prop), (∀ v s, Q v s → Q' v s) → wpAny M A t Q' E s) : wpAny M A t Q E s := h Q (fun _ _ q => q)
theorem mask7 (x : Int) : (Builtin.bitAnd x 127).natAbs < 2 ^ 64 := by rw [bitAnd_m7]; omega
local macro_rules | `(tactic| walk_at "binaryOp LShift int int") => `(tactic| (k_here; k_dflt (refine' lshift_int_small ?k1 ?k2 ?k3 ?_; (case k1 => omega); (case k2 => omega); (case k3 => exact mask7 _); k_whole)))
local macro_rules | `(tactic| walk_at "exec Raise some none") => `(tactic| refine' halt ?_)
local macro_rules | `(tactic| walk_at "subscriptTail") => `(tactic| refine' halt ?_)
local macro_rules | `(tactic| walk_at "leaving ref") => `(tactic| refine' halt ?_)
theorem filled7 (w : World) (_ : hd.heap_39 w.params = hd.heap_39 w.params) (_ : PySem.Challenge.rw_ll0027_01 = PySem.Challenge.rw_ll0027_01) : PySem.Challenge.rw_ll0027_01.row.prog = PySem.Challenge.rw_ll0027_01.row.prog ∧ hd.heap_39 w.params = hd.heap_39 w.params := by
  k_fill
  exact ⟨rfl, rfl⟩
/-- what reading a number tells -/
inductive Dec
  | idx | val | ok (v e : Int)
noncomputable def decL (ns : List Int) : Nat → Int → Int → Dec
  | 0, _, _ => .val
  | n + 1, res, pos => match ns[pos.toNat]? with
    | none => .idx
    | some b =>
      let r := Builtin.bitOr res (Builtin.bitAnd b 127 * 2 ^ (7 * (9 - (n : Int))).toNat)
      if Builtin.bitAnd b 128 = 0 then .ok (Builtin.bitXor (r.fdiv (2 ^ Int.toNat 1)) (-(Builtin.bitAnd r 1))) (pos + 1) else decL ns n r (pos + 1)
noncomputable def decS (ns : List Int) (pos : Int) : Dec := match ns[pos.toNat]? with
  | none => .idx
  | some r =>
    if Builtin.bitAnd r 129 = 0 then .ok (r.fdiv (2 ^ Int.toNat 1)) (pos + 1)
    else if Builtin.bitAnd r 128 = 0 then .ok (Builtin.bitXor (r.fdiv (2 ^ Int.toNat 1)) (Builtin.bitNot 0)) (pos + 1)
    else decL ns 9 (Builtin.bitAnd r 127) (pos + 1)
section
variable {prog : Program} {w : World} {A : Around} {E : Value → Shared → Prop} {s : Shared} {env : Env}
structure WEnd (n : Nat) (I : Nat → Shared → Prop) (s : Shared) : Prop where
  go : ∃ m, m < n ∧ I m s
/-- a while whose turns may raise -/
theorem while_my {test body orelse pos} {Q : Flow → Shared → Prop} (I : Nat → Shared → Prop) (hE : PassesOwn (model prog w) A env E)
    (turn : ∀ n s, I n s → wpAny (model prog w) A (isTrue test env (eval test env)) (fun b s₂ =>
        if b then wpAny (model prog w) A (execs body env) (fun f s₃ => match f with
            | .next | .cont => WEnd n I s₃
            | .brk => Q .next s₃
            | .ret v => Q (.ret v) s₃) E s₂
        else wpAny (model prog w) A (execs orelse env) Q E s₂) E s)
    (n : Nat) (h : I n s) : wpAny (model prog w) A (exec (.While test body orelse pos) env) Q E s := by
  refine wpAny_While (codeAny_whileLoop (R := fun r s' => match r with | .ok f => Q f s' | .error e => cameBackBy (model prog w) A env E e s') I (fun n s hI => ?_) n h)
  refine wpAny_mono (turn n s hI) (fun b s₂ h₂ => ?_) hE
  cases b with
  | true =>
    simp only [if_true] at h₂ ⊢
    refine wpAny_passesOwn hE (wpAny_mono h₂ (fun f s₃ h₃ => ?_) fun _ _ e => e)
    cases f with
    | next => exact h₃.go
    | cont => exact h₃.go
    | brk => exact h₃
    | ret v => exact h₃
  | false =>
    simp only [Bool.false_eq_true, if_false] at h₂ ⊢
    exact wpAny_passesOwn hE h₂
end
section
variable {w : World} {A₀ A : Around} {s : Shared} {base h₀ : Heap} {outer : List Env} {L : Addr} {m mg mb : Str → Option Value} {env : Env} {news : List (Addr × Obj)} {mean : ExcName → Option Value}
  {Q : Value → Shared → Prop} {E : Value → Shared → Prop}
noncomputable def decF : Stmt := PySem.Challenge.pw_ll0027_01.main.body.getD 10 (.Pass default)
noncomputable def decB : List Stmt := match decF with | .FunctionDef _ _ b _ _ _ _ _ _ _ => b | _ => []
noncomputable def decZ : Scope := match decF with | .FunctionDef _ _ _ _ _ _ s _ _ _ => s | _ => default
set_option maxHeartbeats 4000000 in
/-- the body of decode_varint, for both ways of calling it -/
theorem dec_body {g' h' : Heap} {L' : Addr} {mm : Str → Option Value} {tk0 : Nat} {R : Result → Shared → Prop} (hh : A.handled = none) {x : Value} {b : Array UInt8} {ns : List Int}
    (hx : (∃ t, x = .bytes b t) ∨ ∃ a, x = .ref a ∧ (a, baObj b) ∈ news) (hb : octs b = ns) {p : Int} {u : Tok} (hp : 0 ≤ p) (hp2 : p ≤ 1000) (hmb : mm (Str.ofString "buffer") = some x) (hmp : mm (Str.ofString "pos") = some (.int p u))
    (k : ∀ h' tk x' a v e t u, decS ns p = .ok v e → x' = .ref a → Fr h₀ L h' m → News h₀ L h' ((a, tup [.int v t, .int e u]) :: news) → R (.ok (.ret x')) { s with heap := h', toks := tk })
    (kE : ∀ h' tk e X G, (decS ns p = .idx ∧ X = "IndexError" ∨ decS ns p = .val ∧ X = "ValueError") → RaisedSN base G (env :: outer) e (.type X) news h' → Fr h₀ L G m → G.UpToSlots h' → E (.ref e) { s with heap := h', toks := tk })
    (FG' : Fr h₀ L g' m) (F' : Fr g' L' h' mm) (N' : News g' L' h' news) (B' : Below A base (env :: outer) g') (X' : (hd.heap_39 w.params).In g') (T' : Top hd.view_39 LS mean mg mb g') :
    wpAny (model PySem.Challenge.rw_ll0027_01.row.prog w) (A.deeper (envOf (Str.ofString "decode_varint") decZ L' 59 (.ref 58))) (execs decB (envOf (Str.ofString "decode_varint") decZ L' 59 (.ref 58)))
      (fun fl s' => LeaveK h₀ L m g' R (match fl with | .ret v => v | _ => .none) s')
      (fun e s' => wpAny (model PySem.Challenge.rw_ll0027_01.row.prog w) (A.deeper (envOf (Str.ofString "decode_varint") decZ L' 59 (.ref 58))) (leaving (envOf (Str.ofString "decode_varint") decZ L' 59 (.ref 58)) e) (fun _ s'' => E e s'') (fun e' s'' => E e' s'') s')
      { s with heap := h', toks := tk0 } := by
  obtain ⟨DD, hDD⟩ : ∃ DD, DD = decS ns p := ⟨_, rfl⟩
  conv in decB => whnf
  refine wpAny_genQ fun QQ hQQ => ?_
  have hbuf : Buf h' x b := by
    rcases hx with ⟨t, rfl⟩ | ⟨a, rfl, ha⟩
    · exact .bytes b t
    · exact .ba (N' _ ha).1
  k_steps
  have key : ∀ q : Int, 0 ≤ q → (ns[q.toNat]? = none ∧ (b.size : Int) ≤ q) ∨ ∃ cc : UInt8, b[q.toNat]? = some cc ∧ ns[q.toNat]? = some (cc.toNat : Int) := fun q hq => by
    cases hc : b[q.toNat]? with
    | none =>
      have h1 := Array.getElem?_eq_none_iff.mp hc
      refine .inl ⟨List.getElem?_eq_none (by rw [← hb, octs_len]; exact h1), by omega⟩
    | some cc => exact .inr ⟨cc, rfl, by rw [← hb]; exact octs_at hc⟩
  rcases key _ hp with ⟨hno, hge⟩ | ⟨cc, hcc, hnn⟩
  · refine ⟨buf_tail hbuf (buf_out (A := A.deeper _) hh hbuf hp (by omega) hge fun h3 tk3 e3 hx3 => ?_) (by with_unfolding_all rfl)⟩
    refine leave_newS B' hx3 (by assumption) (by assumption) fun h4 RS _ hs => ?_
    exact kE _ _ _ _ _ (.inl ⟨by rw [decS, hno], rfl⟩) RS FG' hs
  · have hcb : (cc.toNat : Int) < 256 := by have := cc.toNat_lt; omega
    have hcb0 : 0 ≤ (cc.toNat : Int) := by omega
    refine ⟨buf_tail hbuf (buf_getItem hbuf hp (by omega) hcc ?_) (by with_unfolding_all rfl)⟩
    generalize hci : (cc.toNat : Int) = ci at *
    clear hbuf
    k_steps
    · rename Fr _ _ _ _ => F2
      rename News _ _ _ _ => N2
      refine ⟨while_my (fun n s' => n ≤ 9 ∧ 1 ≤ n ∧ ∃ h' tk m' res t1 pos t2 sh t3, s' = { s with heap := h', toks := tk } ∧ Fr g' L' h' m' ∧ News g' L' h' news ∧ m' (Str.ofString "buffer") = some x ∧ m' (Str.ofString "result") = some (.int res t1) ∧
        m' (Str.ofString "pos") = some (.int pos t2) ∧ m' (Str.ofString "shift") = some (.int sh t3) ∧ sh = 7 * (10 - (n : Int)) ∧ 0 ≤ pos ∧ pos + n ≤ 1011 ∧ decL ns n res pos = DD) (by passes_own) ?_ 9 ?_⟩
      · rintro n s' ⟨hn9, hn1, h5, tk5, m5, res, t1, pos, t2, sh, t3, rfl, F5, N5, mb5, mr5, mp5, ms5, hsh, hp0, hp1, hdec⟩
        obtain ⟨n, rfl⟩ : ∃ j, n = j + 1 := ⟨n - 1, by omega⟩
        have hsh1 : 7 ≤ sh := by omega
        have hsh2 : sh ≤ 63 := by omega
        clear F2 N2
        have hbuf5 : Buf h5 x b := by
          rcases hx with ⟨t, rfl⟩ | ⟨a, rfl, ha⟩
          · exact .bytes b t
          · exact .ba (N5 _ ha).1
        k_steps
        rcases key _ hp0 with ⟨hno, hge⟩ | ⟨c5, hc5, hn5⟩
        · refine ⟨buf_tail hbuf5 (buf_out (A := A.deeper _) hh hbuf5 hp0 (by omega) hge fun h6 tk6 e6 hx6 => ?_) (by with_unfolding_all rfl)⟩
          refine leave_newS B' hx6 (by assumption) (by assumption) fun h4 RS _ hs => ?_
          exact kE _ _ _ _ _ (.inl ⟨by rw [← hDD, ← hdec, decL, hno], rfl⟩) RS FG' hs
        · have hcb5 : (c5.toNat : Int) < 256 := by have := c5.toNat_lt; omega
          have hcb6 : 0 ≤ (c5.toNat : Int) := by omega
          refine ⟨buf_tail hbuf5 (buf_getItem hbuf5 hp0 (by omega) hc5 ?_) (by with_unfolding_all rfl)⟩
          generalize (c5.toNat : Int) = c5i at *
          clear hbuf5
          k_steps
          · refine ⟨Raise_madeB PySem.F.excCall_ValueError PySem.F.excRaise_ValueError hh ?_⟩
            k_steps
            refine ⟨leave_raiseS B' (Heap.MadeExc.of (by assumption)) (by assumption) (by assumption) fun h4 t4 RS _ hs => ?_⟩
            refine kE _ _ _ _ _ (.inr ⟨?_, rfl⟩) RS.toSN FG' hs
            obtain rfl : n = 0 := by omega
            rw [← hDD, ← hdec, decL, hn5]
            dsimp only
            rw [if_neg (by assumption)]
            rfl
          · rename Fr _ _ _ _ => F8
            rename News _ _ _ _ => N8
            refine WEnd.mk ⟨n, by omega, by omega, by omega, _, _, _, _, _, _, _, _, _, rfl, F8, N8, mb5, rfl, rfl, rfl, ?_, ?_, ?_, ?_⟩
            · omega
            · omega
            · omega
            · rw [← hdec, decL, hn5]
              dsimp only
              rw [if_neg (by assumption), show 7 * (9 - (n : Int)) = sh by omega]
          · refine hQQ _ _ (leaveK_ (by assumption) (by assumption) fun F₁ N₁ => ?_)
            refine k _ _ _ _ _ _ _ _ ?_ rfl F₁ N₁
            rw [← hDD, ← hdec, decL, hn5]
            dsimp only
            rw [if_pos (by assumption), show 7 * (9 - (n : Int)) = sh by omega]
      · refine ⟨by omega, by omega, _, _, _, _, _, _, _, _, _, rfl, F2, N2, hmb, rfl, rfl, rfl, rfl, ?_, ?_, ?_⟩
        · omega
        · omega
        · rw [hDD, decS, hnn]
          dsimp only
          rw [if_neg (by assumption), if_neg (by assumption)]
    · refine hQQ _ _ (leaveK_ (by assumption) (by assumption) fun F₁ N₁ => ?_)
      refine k _ _ _ _ _ _ _ _ ?_ rfl F₁ N₁
      rw [decS, hnn]
      dsimp only
      rw [if_neg (by assumption), if_pos (by assumption)]
    · refine hQQ _ _ (leaveK_ (by assumption) (by assumption) fun F₁ N₁ => ?_)
      refine k _ _ _ _ _ _ _ _ ?_ rfl F₁ N₁
      rw [decS, hnn]
      dsimp only
      rw [if_pos (by assumption)]
set_option maxHeartbeats 4000000 in
theorem dec_c (B : Below A₀ base outer h₀) (X₀ : (hd.heap_39 w.params).In h₀) (T : Top hd.view_39 LS mean mg mb h₀) (hA : A.frames = some (env :: outer)) (hf : env.frame = some L) (hke : env.scope.kind = .function)
    (F : Fr h₀ L s.heap m) (N : News h₀ L s.heap news) (hh : A.handled = none) (hroom : A.depth < recursionLimit) (hun : A.units ≤ 1000) {x : Value} {b : Array UInt8} {ns : List Int}
    (hx : (∃ t, x = .bytes b t) ∨ ∃ a, x = .ref a ∧ (a, baObj b) ∈ news) (hb : octs b = ns) (hz : b.size ≤ 1000) {p : Int} {args : List Value} (hargs : (args = [x] ∧ p = 0) ∨ ∃ u, args = [x, .int p u]) (hp : 0 ≤ p) (hp2 : p ≤ 1000)
    (k : ∀ h' tk x' a v e t u, decS ns p = .ok v e → x' = .ref a → Fr h₀ L h' m → News h₀ L h' ((a, tup [.int v t, .int e u]) :: news) → Q x' { s with heap := h', toks := tk })
    (kE : ∀ h' tk e X G, (decS ns p = .idx ∧ X = "IndexError" ∨ decS ns p = .val ∧ X = "ValueError") → RaisedSN base G (env :: outer) e (.type X) news h' → Fr h₀ L G m → G.UpToSlots h' → E (.ref e) { s with heap := h', toks := tk }) :
    wpAny (model PySem.Challenge.rw_ll0027_01.row.prog w) A (call (.ref 59) args) Q E s := by
  refine wpAny_call ?_
  rcases hargs with ⟨rfl, rfl⟩ | ⟨u, rfl⟩
  all_goals
    k_dflt (refine' code_def B F X₀ N T hA hf hke ?k6 ?k7 hroom ?k9 ?kB ?_ ?c2 ?c3 ?c4 ?c5)
    walk_at "my enter"
    intro g' L' h' FG' F' N' B' X' T'
    exact dec_body hh hx hb hp hp2 rfl rfl k kE FG' F' N' B' X' T'
end
end
section
set_option linter.unusedSimpArgs false
set_option linter.unusedVariables false
theorem offC8 : True := by
  w_top off
  exact True.intro
local macro_rules | `(tactic| walk_at "eval Name") => `(tactic| walk_at "my ld")
local macro_rules | `(tactic| walk_at "loadName") => `(tactic| (k_here; k_dflt (refine' ldN ?k1 ?k2 ?_; (case k1 => k_asm); (case k2 => assumption); k_whole)))
theorem filled8 (w : World) (_ : hd.heap_39 w.params = hd.heap_39 w.params) (_ : PySem.Challenge.rw_ll0027_01 = PySem.Challenge.rw_ll0027_01) : PySem.Challenge.rw_ll0027_01.row.prog = PySem.Challenge.rw_ll0027_01.row.prog ∧ hd.heap_39 w.params = hd.heap_39 w.params := by
  k_fill
  exact ⟨rfl, rfl⟩
theorem wpG_gen {T : Type} {M : Model} {A : Around} {t : Sem T} {s : Shared} {Q : T → Shared → Prop} {E : Value → Shared → Prop}
    (h : ∀ (Q' : T → Shared → Prop) (E' : Value → Shared → Prop), (∀ v s, Q v s → Q' v s) → (∀ e s, E e s → E' e s) → wpG M A t Q' E' s) : wpG M A t Q E s := h Q E (fun _ _ q => q) (fun _ _ e => e)
theorem octs_push {b : Array UInt8} {n : Int} (h0 : 0 ≤ n) (h1 : n < 256) : octs (b.push n.toNat.toUInt8) = octs b ++ [n] := by
  unfold octs
  rw [Array.toList_push, List.map_append]
  have : ((n.toNat.toUInt8).toNat : Int) = n := by
    have : n.toNat.toUInt8.toNat = n.toNat := by simp [Nat.toUInt8]; omega
    rw [this]; omega
  rw [List.map_cons, this]; rfl
section
variable {prog : Program} {w : World} {A : Around} {E : Value → Shared → Prop} {s : Shared} {env : Env}
/-- a while in clean contexts; its turns do not raise -/
theorem while_myG {test body orelse pos} {Q : Flow → Shared → Prop} (I : Nat → Shared → Prop)
    (turn : ∀ n s, I n s → wpAny (model prog w) A (isTrue test env (eval test env)) (fun b s₂ =>
        if b then wpG (model prog w) A (execs body env) (fun f s₃ => match f with
            | .next | .cont => WEnd n I s₃
            | .brk => Q .next s₃
            | .ret v => Q (.ret v) s₃) (fun _ _ => False) s₂
        else wpG (model prog w) A (execs orelse env) Q (fun _ _ => False) s₂) (fun _ _ => False) s)
    (n : Nat) (h : I n s) : wpG (model prog w) A (exec (.While test body orelse pos) env) Q E s := by
  refine whileG (whileLoopG (R := fun r s' => match r with | .ok f => Q f s' | .error e => cameBackBy (model prog w) A env E e s') I (fun n s hI => ?_) n h)
  refine wpAny_mono (turn n s hI) (fun b s₂ h₂ => ?_) fun _ _ e => e.elim
  cases b with
  | true =>
    simp only [if_true] at h₂ ⊢
    refine wpG_mono h₂ (fun f s₃ h₃ => ?_) fun _ _ e => e.elim
    cases f with
    | next => exact h₃.go
    | cont => exact h₃.go
    | brk => exact h₃
    | ret v => exact h₃
  | false =>
    simp only [Bool.false_eq_true, if_false] at h₂ ⊢
    exact wpG_mono h₂ (fun f s₃ h₃ => h₃) fun _ _ e => e.elim
/-- what stands where an octet is written -/
structure WArg (g : Heap) (L a : Addr) (m : Str → Option Value) (b : Array UInt8) (rest : List (Addr × Obj)) (Q : Flow → Shared → Prop) (s : Shared) (v : Value) (s₁ : Shared) : Prop where
  go : ∃ n u tk, v = .int n u ∧ s₁ = { s with toks := tk } ∧ 0 ≤ n ∧ n < 256 ∧ ∀ h' b', octs b' = octs b ++ [n] → Fr g L h' m → News g L h' ((a, baObj b') :: rest) → Q .next { s with heap := h', toks := tk }
theorem write_st {g : Heap} {L f a mth : Addr} {name x : Str} {scope : Scope} {cd : Value} {m : Str → Option Value} {b : Array UInt8} {rest : List (Addr × Obj)} {e : Expr} {px cp pos : Pos} {Q : Flow → Shared → Prop}
    (F : Fr g L s.heap m) (N : News g L s.heap ((a, baObj b) :: rest)) (hne : ∀ p ∈ rest, p.1 ≠ a) (hm : (mth, apObj a) ∈ rest) (hz : b.size < sizeLine) (hv : m x = some (.ref mth))
    (harg : wpAny (model prog w) A (eval e (envOf name scope L f cd)) (WArg g L a m b rest Q s) E s)
    (hk : scope.kind = .function := by rfl) (hl : (envOf name scope L f cd).kindOf x = some .local := by rfl) (hd : (x == ("__debug__" : Str)) = false := by decide)
    (he : starEach [e] (envOf name scope L f cd) = (false, eval e (envOf name scope L f cd)) :: starEach [] (envOf name scope L f cd) := by rfl)
    (hpl : (backTo cp (starEach [] (envOf name scope L f cd))).any (·.1) = false := by rfl)
    (hce : eval (.Call (.Name x px) [e] [] cp) (envOf name scope L f cd) = (do callWith cp (← eval (.Name x px) (envOf name scope L f cd)) [] (backTo cp (starEach [e] (envOf name scope L f cd))) (backToKw cp (keywordEach [] (envOf name scope L f cd)))) := by rfl)
    (hi : interactive (envOf name scope L f cd) = false := by rfl) (hs : swapsWith (.Call (.Name x px) [e] [] cp) none pos.line (envOf name scope L f cd) = pure false := by rfl) :
    wpG (model prog w) A (exec (.Expr (.Call (.Name x px) [e] [] cp) pos) (envOf name scope L f cd)) Q E s := by
  refine exprG (callG (ld F hv (callWithG (argsG_cons (wpG_of (wpAny_mono harg (fun v s₁ h₁ => ?_) fun _ _ e => e)) he) he hpl) hk hl hd) hce) hi hs
  obtain ⟨n, u, tk, rfl, rfl, h0, h1, k⟩ := h₁.go
  refine argsG_nil ⟨kept_bound (N _ (.tail _ hm)).1 rfl rfl, ?_⟩
  refine ap_call (N _ (.tail _ hm)).1 (N _ (.head _)).1 h0 h1 hz fun h' ho hs => ?_
  have z := N _ (.head _)
  exact k h' _ (octs_push h0 h1) (F.change hs z.2.1 z.2.2) (news_set (pre := []) N (fun _ h => nomatch h) hne hs ho)
end
section
variable {w : World} {A₀ A : Around} {s : Shared} {base h₀ : Heap} {outer : List Env} {L : Addr} {m mg mb : Str → Option Value} {env : Env} {news rest : List (Addr × Obj)} {mean : ExcName → Option Value}
  {Q : Value → Shared → Prop} {E : Value → Shared → Prop}
noncomputable abbrev encZ : Scope := { kind := .function, names := [(Str.ofString "value", .local), (Str.ofString "write", .local), (Str.ofString "bits", .local), (Str.ofString "i", .local)], isGenerator := false, isCoroutine := false }
section
variable {g : Heap} {a mth fa : Addr} {cd : Value} {mm : Str → Option Value} {b : Array UInt8} {z : Nat} {t : Tok} {p1 p2 p3 p4 p5 p6 p7 : Pos}
theorem ev_lo (X : (hd.heap_39 w.params).In g) (F : Fr g L s.heap mm) (hv : mm (Str.ofString "value") = some (.int ((z : Nat) : Int) t)) (q : ∀ tk u, Q (.int ((128 + z % 128 : Nat) : Int) u) { s with toks := tk }) :
    wpAny (model PySem.Challenge.rw_ll0027_01.row.prog w) A (eval (.BinOp (.Constant (.int 128) 0 p1) .BitOr (.BinOp (.Name (Str.ofString "value") p2) .BitAnd (.Constant (.int 127) 0 p3) p4) p5) (envOf (Str.ofString "encode_varint") encZ L fa cd)) Q E s := by
  k_steps
  rw [or127]
  exact q _ _
theorem ev_mid {kk : Int} (hk : 0 ≤ kk) (hk2 : kk ≤ 63) (X : (hd.heap_39 w.params).In g) (F : Fr g L s.heap mm) (hv : mm (Str.ofString "value") = some (.int ((z : Nat) : Int) t)) (q : ∀ tk u, Q (.int ((128 + z / 2 ^ kk.toNat % 128 : Nat) : Int) u) { s with toks := tk }) :
    wpAny (model PySem.Challenge.rw_ll0027_01.row.prog w) A (eval (.BinOp (.Constant (.int 128) 0 p1) .BitOr (.BinOp (.BinOp (.Name (Str.ofString "value") p2) .RShift (.Constant (.int kk) 0 p3) p4) .BitAnd (.Constant (.int 127) 0 p5) p6) p7) (envOf (Str.ofString "encode_varint") encZ L fa cd)) Q E s := by
  k_steps
  rw [shr_nat, or127]
  exact q _ _
theorem ev_top {kk : Int} (hk : 0 ≤ kk) (hk2 : kk ≤ 63) (X : (hd.heap_39 w.params).In g) (F : Fr g L s.heap mm) (hv : mm (Str.ofString "value") = some (.int ((z : Nat) : Int) t)) (q : ∀ tk u, Q (.int ((z / 2 ^ kk.toNat : Nat) : Int) u) { s with toks := tk }) :
    wpAny (model PySem.Challenge.rw_ll0027_01.row.prog w) A (eval (.BinOp (.Name (Str.ofString "value") p2) .RShift (.Constant (.int kk) 0 p3) p4) (envOf (Str.ofString "encode_varint") encZ L fa cd)) Q E s := by
  k_steps
  rw [shr_nat]
  exact q _ _
theorem ev_all (X : (hd.heap_39 w.params).In g) (F : Fr g L s.heap mm) (hv : mm (Str.ofString "value") = some (.int ((z : Nat) : Int) t)) (q : ∀ tk u, Q (.int ((z : Nat) : Int) u) { s with toks := tk }) :
    wpAny (model PySem.Challenge.rw_ll0027_01.row.prog w) A (eval (.Name (Str.ofString "value") p2) (envOf (Str.ofString "encode_varint") encZ L fa cd)) Q E s := by
  k_steps
  exact q _ _
theorem push_size {b b' : Array UInt8} {n : Int} {zz : Nat} (h : octs b' = octs b ++ [n]) (hz : b.size ≤ zz) : b'.size ≤ zz + 1 := by
  have := congrArg List.length h
  rw [List.length_append, octs_len, octs_len] at this
  exact this ▸ Nat.succ_le_succ hz
theorem wr_lo {rest : List (Addr × Obj)} {out : List Int} {zz : Nat} {px cp pos : Pos} {Q : Flow → Shared → Prop} (X : (hd.heap_39 w.params).In g) (F : Fr g L s.heap mm) (N : News g L s.heap ((a, baObj b) :: rest)) (hne : ∀ p ∈ rest, p.1 ≠ a) (hm : (mth, apObj a) ∈ rest) (hb : octs b = out) (hz : b.size ≤ zz) (hzz : zz ≤ 20000)
    (hw : mm (Str.ofString "write") = some (.ref mth)) (hv : mm (Str.ofString "value") = some (.int ((z : Nat) : Int) t)) 
    (q : ∀ h' tk b', octs b' = out ++ [((128 + z % 128 : Nat) : Int)] → b'.size ≤ zz + 1 → Fr g L h' mm → News g L h' ((a, baObj b') :: rest) → Q .next { s with heap := h', toks := tk }) :
    wpG (model PySem.Challenge.rw_ll0027_01.row.prog w) A (exec (.Expr (.Call (.Name (Str.ofString "write") px) [.BinOp (.Constant (.int 128) 0 p1) .BitOr (.BinOp (.Name (Str.ofString "value") p2) .BitAnd (.Constant (.int 127) 0 p3) p4) p5] [] cp) pos) (envOf (Str.ofString "encode_varint") encZ L fa cd)) Q E s := by
  exact write_st F N hne hm (Nat.lt_of_le_of_lt (Nat.le_trans hz hzz) (by decide)) hw (ev_lo X F hv fun tk u => ⟨_, _, _, rfl, rfl, Int.natCast_nonneg _, by omega, fun h' b' hb' F' N' => q h' tk b' (hb'.trans (by rw [hb])) (push_size hb' hz) F' N'⟩)
theorem wr_mid {rest : List (Addr × Obj)} {out : List Int} {zz : Nat} {px cp pos : Pos} {Q : Flow → Shared → Prop} {kk : Int} {D : Nat} (X : (hd.heap_39 w.params).In g) (F : Fr g L s.heap mm) (N : News g L s.heap ((a, baObj b) :: rest)) (hne : ∀ p ∈ rest, p.1 ≠ a) (hm : (mth, apObj a) ∈ rest) (hb : octs b = out) (hz : b.size ≤ zz) (hzz : zz ≤ 20000)
    (hw : mm (Str.ofString "write") = some (.ref mth)) (hv : mm (Str.ofString "value") = some (.int ((z : Nat) : Int) t)) (hk : 0 ≤ kk) (hk2 : kk ≤ 63) (hD : 2 ^ kk.toNat = D)
    (q : ∀ h' tk b', octs b' = out ++ [((128 + z / D % 128 : Nat) : Int)] → b'.size ≤ zz + 1 → Fr g L h' mm → News g L h' ((a, baObj b') :: rest) → Q .next { s with heap := h', toks := tk }) :
    wpG (model PySem.Challenge.rw_ll0027_01.row.prog w) A (exec (.Expr (.Call (.Name (Str.ofString "write") px) [.BinOp (.Constant (.int 128) 0 p1) .BitOr (.BinOp (.BinOp (.Name (Str.ofString "value") p2) .RShift (.Constant (.int kk) 0 p3) p4) .BitAnd (.Constant (.int 127) 0 p5) p6) p7] [] cp) pos) (envOf (Str.ofString "encode_varint") encZ L fa cd)) Q E s := by
  subst hD
  exact write_st F N hne hm (Nat.lt_of_le_of_lt (Nat.le_trans hz hzz) (by decide)) hw (ev_mid hk hk2 X F hv fun tk u => ⟨_, _, _, rfl, rfl, Int.natCast_nonneg _, by omega, fun h' b' hb' F' N' => q h' tk b' (hb'.trans (by rw [hb])) (push_size hb' hz) F' N'⟩)
theorem wr_top {rest : List (Addr × Obj)} {out : List Int} {zz : Nat} {px cp pos : Pos} {Q : Flow → Shared → Prop} {kk : Int} {D : Nat} (X : (hd.heap_39 w.params).In g) (F : Fr g L s.heap mm) (N : News g L s.heap ((a, baObj b) :: rest)) (hne : ∀ p ∈ rest, p.1 ≠ a) (hm : (mth, apObj a) ∈ rest) (hb : octs b = out) (hz : b.size ≤ zz) (hzz : zz ≤ 20000)
    (hw : mm (Str.ofString "write") = some (.ref mth)) (hv : mm (Str.ofString "value") = some (.int ((z : Nat) : Int) t)) (hk : 0 ≤ kk) (hk2 : kk ≤ 63) (hD : 2 ^ kk.toNat = D) (hs : z / D < 256)
    (q : ∀ h' tk b', octs b' = out ++ [((z / D : Nat) : Int)] → b'.size ≤ zz + 1 → Fr g L h' mm → News g L h' ((a, baObj b') :: rest) → Q .next { s with heap := h', toks := tk }) :
    wpG (model PySem.Challenge.rw_ll0027_01.row.prog w) A (exec (.Expr (.Call (.Name (Str.ofString "write") px) [.BinOp (.Name (Str.ofString "value") p2) .RShift (.Constant (.int kk) 0 p3) p4] [] cp) pos) (envOf (Str.ofString "encode_varint") encZ L fa cd)) Q E s := by
  subst hD
  exact write_st F N hne hm (Nat.lt_of_le_of_lt (Nat.le_trans hz hzz) (by decide)) hw (ev_top hk hk2 X F hv fun tk u => ⟨_, _, _, rfl, rfl, Int.natCast_nonneg _, by exact_mod_cast hs, fun h' b' hb' F' N' => q h' tk b' (hb'.trans (by rw [hb])) (push_size hb' hz) F' N'⟩)
theorem wr_all {rest : List (Addr × Obj)} {out : List Int} {zz : Nat} {px cp pos : Pos} {Q : Flow → Shared → Prop} (X : (hd.heap_39 w.params).In g) (F : Fr g L s.heap mm) (N : News g L s.heap ((a, baObj b) :: rest)) (hne : ∀ p ∈ rest, p.1 ≠ a) (hm : (mth, apObj a) ∈ rest) (hb : octs b = out) (hz : b.size ≤ zz) (hzz : zz ≤ 20000)
    (hw : mm (Str.ofString "write") = some (.ref mth)) (hv : mm (Str.ofString "value") = some (.int ((z : Nat) : Int) t)) (hs : z < 256)
    (q : ∀ h' tk b', octs b' = out ++ [((z : Nat) : Int)] → b'.size ≤ zz + 1 → Fr g L h' mm → News g L h' ((a, baObj b') :: rest) → Q .next { s with heap := h', toks := tk }) :
    wpG (model PySem.Challenge.rw_ll0027_01.row.prog w) A (exec (.Expr (.Call (.Name (Str.ofString "write") px) [.Name (Str.ofString "value") p2] [] cp) pos) (envOf (Str.ofString "encode_varint") encZ L fa cd)) Q E s := by
  exact write_st F N hne hm (Nat.lt_of_le_of_lt (Nat.le_trans hz hzz) (by decide)) hw (ev_all X F hv fun tk u => ⟨_, _, _, rfl, rfl, Int.natCast_nonneg _, by omega, fun h' b' hb' F' N' => q h' tk b' (hb'.trans (by rw [hb])) (push_size hb' hz) F' N'⟩)
end
theorem fr_gen {h₀ h : Heap} {L : Addr} {m : Str → Option Value} (F : Fr h₀ L h m) : ∃ m', m' = m ∧ Fr h₀ L h m' := ⟨m, rfl, F⟩
theorem enc_done {b b' : Array UInt8} {z : Nat} {l : List Int} {e : List Nat} (h : octs b' = l) (he : encNat z = e) (hl : l = octs b ++ [] ++ toI e) : octs b' = octs b ++ toI (encNat z) := by
  rw [h, hl, he, List.append_nil]
set_option maxHeartbeats 4000000 in
theorem enc_c (C : Cx w A h₀ L) (F : Fr h₀ L s.heap m) (hroom : A.depth < recursionLimit) {a mth : Addr} {b : Array UInt8} (N : News h₀ L s.heap ((a, baObj b) :: rest)) (hne : ∀ p ∈ rest, p.1 ≠ a) (hm : (mth, apObj a) ∈ rest) (hz : b.size ≤ 10000)
    {v : Int} {t : Tok} (h1 : -(2 ^ 63) ≤ v) (h2 : v < 2 ^ 63) {z : Nat} (hzz : (z : Int) = if 0 ≤ v then 2 * v else -2 * v - 1)
    (k : ∀ h' tk t' (n : Int) b', octs b' = octs b ++ toI (encNat z) → ((encNat z).length ≤ 5 → n = ((encNat z).length : Int)) → Fr h₀ L h' m → News h₀ L h' ((a, baObj b') :: rest) → Q (.int n t') { s with heap := h', toks := tk }) :
    wpG (model PySem.Challenge.rw_ll0027_01.row.prog w) A (call (.ref 44) [.int v t, .ref mth]) Q E s := by
  obtain ⟨A₀, base, outer, env, mg, mb, mean, B, X₀, T, hA, hf, hke⟩ := C.go
  have X₁ := X₀.keeps F.keep
  refine wpG_call ?_
  k_dflt (refine' defG B F X₀ N T hA hf hke ?k6 ?k7 hroom ?k9 ?kB ?_ ?c5 ?c2 ?c3 ?c4)
  walk_at "my enter"
  intro g' L' h' FG' F' N' B' X' T' l1
  (try dsimp only)
  clear hA hf hke hroom F X₀ N T C B X₁
  refine wpG_gen fun QQ EE hQQ _ => ?_
  have hzv := zz_val h1 h2
  rw [← hzz] at hzv
  have hz64 : z < 2 ^ 64 := by omega
  generalize s.toks + _ = tk0
  refine execsG_leaf ?_
  k_steps
  rename Fr _ _ _ _ => F1
  rename News _ _ _ _ => N2
  rw [hzv] at F1
  obtain ⟨mm, hmm, F2⟩ := fr_gen F1
  have hw : mm (Str.ofString "write") = some (.ref mth) := by rw [hmm]; rfl
  obtain ⟨tv, hv⟩ : ∃ tv, mm (Str.ofString "value") = some (.int ((z : Nat) : Int) tv) := ⟨_, by rw [hmm]; rfl⟩
  clear F1 hmm
  obtain ⟨b2, hb2', hb2⟩ : ∃ b2, b2 = b ∧ octs b2 = octs b ++ [] := ⟨b, rfl, by simp⟩
  rw [← hb2'] at N2
  have hz2 : b2.size ≤ 10000 := by rw [hb2']; exact hz
  refine execsG_cons (ifG (wpG_of ?_))
  k_steps
  · rename Fr _ _ _ _ => F2
    rename News _ _ _ _ => N2
    refine execsG_cons (wr_all X' F2 N2 hne hm hb2 hz2 (by omega) hw hv (by omega) fun h3 tk3 b3 hb3 hz3 F3 N3 => ?_)
    clear F2 N2
    dsimp only
    refine execsG_leaf ?_
    k_steps
    refine hQQ _ _ (leaveK_ (by assumption) (by assumption) fun F₁ N₁ => ?_)
    refine k _ _ _ _ _ (enc_done hb3 (enc1 (by omega)) (by simp only [toI, List.map_cons, List.map_nil, List.append_assoc, List.cons_append, List.nil_append] <;> rfl)) (fun _ => by rw [enc1 (by omega)]; rfl) F₁ N₁
  refine execsG_nil ?_
  dsimp only
  refine execsG_cons (ifG (wpG_of ?_))
  k_steps
  · rename Fr _ _ _ _ => F2
    rename News _ _ _ _ => N2
    refine execsG_cons (wr_lo X' F2 N2 hne hm hb2 hz2 (by omega) hw hv fun h3 tk3 b3 hb3 hz3 F3 N3 => ?_)
    clear F2 N2
    dsimp only
    refine execsG_cons (wr_top X' F3 N3 hne hm hb3 hz3 (by omega) hw hv (kk := 7) (D := 128) (by decide) (by decide) (by decide +kernel) (by omega) fun h4 tk4 b4 hb4 hz4 F4 N4 => ?_)
    clear F3 N3
    dsimp only
    refine execsG_leaf ?_
    k_steps
    refine hQQ _ _ (leaveK_ (by assumption) (by assumption) fun F₁ N₁ => ?_)
    refine k _ _ _ _ _ (enc_done hb4 (enc2 (by omega) (by omega)) (by simp only [toI, List.map_cons, List.map_nil, List.append_assoc, List.cons_append, List.nil_append] <;> rfl)) (fun _ => by rw [enc2 (by omega) (by omega)]; rfl) F₁ N₁
  refine execsG_nil ?_
  dsimp only
  refine execsG_cons (ifG (wpG_of ?_))
  k_steps
  · rename Fr _ _ _ _ => F2
    rename News _ _ _ _ => N2
    refine execsG_cons (wr_lo X' F2 N2 hne hm hb2 hz2 (by omega) hw hv fun h3 tk3 b3 hb3 hz3 F3 N3 => ?_)
    clear F2 N2
    dsimp only
    refine execsG_cons (wr_mid X' F3 N3 hne hm hb3 hz3 (by omega) hw hv (kk := 7) (D := 128) (by decide) (by decide) (by decide +kernel) fun h4 tk4 b4 hb4 hz4 F4 N4 => ?_)
    clear F3 N3
    dsimp only
    refine execsG_cons (wr_top X' F4 N4 hne hm hb4 hz4 (by omega) hw hv (kk := 14) (D := 16384) (by decide) (by decide) (by decide +kernel) (by omega) fun h5 tk5 b5 hb5 hz5 F5 N5 => ?_)
    clear F4 N4
    dsimp only
    refine execsG_leaf ?_
    k_steps
    refine hQQ _ _ (leaveK_ (by assumption) (by assumption) fun F₁ N₁ => ?_)
    refine k _ _ _ _ _ (enc_done hb5 (enc3 (by omega) (by omega)) (by simp only [toI, List.map_cons, List.map_nil, List.append_assoc, List.cons_append, List.nil_append] <;> rfl)) (fun _ => by rw [enc3 (by omega) (by omega)]; rfl) F₁ N₁
  refine execsG_nil ?_
  dsimp only
  refine execsG_cons (ifG (wpG_of ?_))
  k_steps
  · rename Fr _ _ _ _ => F2
    rename News _ _ _ _ => N2
    refine execsG_cons (wr_lo X' F2 N2 hne hm hb2 hz2 (by omega) hw hv fun h3 tk3 b3 hb3 hz3 F3 N3 => ?_)
    clear F2 N2
    dsimp only
    refine execsG_cons (wr_mid X' F3 N3 hne hm hb3 hz3 (by omega) hw hv (kk := 7) (D := 128) (by decide) (by decide) (by decide +kernel) fun h4 tk4 b4 hb4 hz4 F4 N4 => ?_)
    clear F3 N3
    dsimp only
    refine execsG_cons (wr_mid X' F4 N4 hne hm hb4 hz4 (by omega) hw hv (kk := 14) (D := 16384) (by decide) (by decide) (by decide +kernel) fun h5 tk5 b5 hb5 hz5 F5 N5 => ?_)
    clear F4 N4
    dsimp only
    refine execsG_cons (wr_top X' F5 N5 hne hm hb5 hz5 (by omega) hw hv (kk := 21) (D := 2097152) (by decide) (by decide) (by decide +kernel) (by omega) fun h6 tk6 b6 hb6 hz6 F6 N6 => ?_)
    clear F5 N5
    dsimp only
    refine execsG_leaf ?_
    k_steps
    refine hQQ _ _ (leaveK_ (by assumption) (by assumption) fun F₁ N₁ => ?_)
    refine k _ _ _ _ _ (enc_done hb6 (enc4 (by omega) (by omega)) (by simp only [toI, List.map_cons, List.map_nil, List.append_assoc, List.cons_append, List.nil_append] <;> rfl)) (fun _ => by rw [enc4 (by omega) (by omega)]; rfl) F₁ N₁
  refine execsG_nil ?_
  dsimp only
  refine execsG_cons (ifG (wpG_of ?_))
  k_steps
  · rename Fr _ _ _ _ => F2
    rename News _ _ _ _ => N2
    refine execsG_cons (wr_lo X' F2 N2 hne hm hb2 hz2 (by omega) hw hv fun h3 tk3 b3 hb3 hz3 F3 N3 => ?_)
    clear F2 N2
    dsimp only
    refine execsG_cons (wr_mid X' F3 N3 hne hm hb3 hz3 (by omega) hw hv (kk := 7) (D := 128) (by decide) (by decide) (by decide +kernel) fun h4 tk4 b4 hb4 hz4 F4 N4 => ?_)
    clear F3 N3
    dsimp only
    refine execsG_cons (wr_mid X' F4 N4 hne hm hb4 hz4 (by omega) hw hv (kk := 14) (D := 16384) (by decide) (by decide) (by decide +kernel) fun h5 tk5 b5 hb5 hz5 F5 N5 => ?_)
    clear F4 N4
    dsimp only
    refine execsG_cons (wr_mid X' F5 N5 hne hm hb5 hz5 (by omega) hw hv (kk := 21) (D := 2097152) (by decide) (by decide) (by decide +kernel) fun h6 tk6 b6 hb6 hz6 F6 N6 => ?_)
    clear F5 N5
    dsimp only
    refine execsG_cons (wr_top X' F6 N6 hne hm hb6 hz6 (by omega) hw hv (kk := 28) (D := 268435456) (by decide) (by decide) (by decide +kernel) (by omega) fun h7 tk7 b7 hb7 hz7 F7 N7 => ?_)
    clear F6 N6
    dsimp only
    refine execsG_leaf ?_
    k_steps
    refine hQQ _ _ (leaveK_ (by assumption) (by assumption) fun F₁ N₁ => ?_)
    refine k _ _ _ _ _ (enc_done hb7 (enc5 (by omega) (by omega)) (by simp only [toI, List.map_cons, List.map_nil, List.append_assoc, List.cons_append, List.nil_append] <;> rfl)) (fun _ => by rw [enc5 (by omega) (by omega)]; rfl) F₁ N₁
  refine execsG_leaf ?_
  k_steps
  refine execsG_leaf ?_
  k_steps
  refine execsG_leaf ?_
  k_steps
  rename Fr _ _ _ _ => F2
  rename News _ _ _ _ => N2
  rw [and127, shr7] at F2
  have hbig : 6 ≤ (encNat z).length := enc_len2 5 (by omega) (by omega)
  have hlen := enc_len 9 (z := z) (by omega)
  refine execsG_cons (while_myG (fun n s' => ∃ h' tk m' out bits val b' t1 t2 i t3, s' = { s with heap := h', toks := tk } ∧ Fr g' L' h' m' ∧ News g' L' h' ((a, baObj b') :: rest) ∧ m' (Str.ofString "write") = some (.ref mth) ∧ m' (Str.ofString "value") = some (.int ((val : Nat) : Int) t1) ∧
    m' (Str.ofString "bits") = some (.int ((bits : Nat) : Int) t2) ∧ m' (Str.ofString "i") = some (.int i t3) ∧ bits < 128 ∧ octs b' = octs b ++ toI out ∧ out ++ encW bits val = encNat z ∧ i = (out.length : Int) ∧ n = val ∧ val < 2 ^ 64) ?_ (z / 128) ?_)
  · rintro n s' ⟨h5, tk5, m5, out, bits, val, b5, t1, t2, i, t3, rfl, F5, N5, mw5, mv5, mb5, mi5, hbits, hb5, henc, hi5, rfl, hv64⟩
    clear F2 N2
    have hol : out.length ≤ 10 := by have := congrArg List.length henc; rw [List.length_append] at this; omega
    have hz5 : b5.size < sizeLine := by have := octs_len b5; rw [hb5] at this; simp only [List.length_append, octs_len, toI, List.length_map] at this; exact Nat.lt_of_le_of_lt (show b5.size ≤ 20000 by omega) (by decide)
    k_steps
    · refine execsG_cons (write_st F5 N5 hne hm hz5 mw5 ?_)
      k_steps
      refine ⟨⟨_, _, _, rfl, rfl, ?_, ?_, fun h6 b6 hb6 F6 N6 => ?_⟩⟩
      · rw [or128 hbits]; omega
      · rw [or128 hbits]; omega
      rw [or128 hbits, hb5] at hb6
      clear F5 N5
      dsimp only
      refine execsG_leaf ?_
      k_steps
      refine execsG_leaf ?_
      k_steps
      refine execsG_leaf ?_
      k_steps
      rename Fr _ _ _ _ => F8
      rename News _ _ _ _ => N8
      rw [and127, shr7] at F8
      refine execsG_nil ?_
      refine WEnd.mk ⟨n / 128, ?_, _, _, _, out ++ [128 + bits], _, _, _, _, _, _, _, rfl, F8, N8, mw5, rfl, rfl, rfl, Nat.mod_lt _ (by decide), ?_, ?_, ?_, rfl, by omega⟩
      · omega
      · rw [hb6]
        simp [toI]
      · rw [encW_of, ← henc, encW, if_neg (by omega)]
        simp
      · rw [hi5]; simp
    · refine execsG_nil ?_
      dsimp only
      refine execsG_nil ?_
      dsimp only
      have hn0 : n = 0 := by omega
      rw [encW, if_pos hn0] at henc
      refine execsG_cons (write_st F5 N5 hne hm hz5 mw5 ?_)
      k_steps
      refine ⟨⟨_, _, _, rfl, rfl, ?_, ?_, fun h6 b6 hb6 F6 N6 => ?_⟩⟩
      · omega
      · omega
      rw [hb5] at hb6
      clear F5 N5
      dsimp only
      refine execsG_leaf ?_
      k_steps
      refine hQQ _ _ (leaveK_ (by assumption) (by assumption) fun F₁ N₁ => ?_)
      refine k _ _ _ _ _ ?_ ?_ F₁ N₁
      · rw [hb6, ← henc]
        simp [toI]
      · intro h; omega
  · exact ⟨_, _, _, [], _, _, _, _, _, _, _, rfl, F2, N2, hw, rfl, rfl, rfl, Nat.mod_lt _ (by decide), hb2, encW_of z, rfl, rfl, by omega⟩
end
end
section
set_option linter.unusedSimpArgs false
set_option linter.unusedVariables false
local macro_rules | `(tactic| walk_at "my pad") => `(tactic| skip)
theorem offC9 : True := by
  w_top off
  exact True.intro
local macro_rules | `(tactic| walk_at "call type:bytes") => `(tactic| refine' halt ?_)
local macro_rules | `(tactic| walk_at "call ref") => `(tactic| refine' halt ?_)
theorem filled9 (w : World) (_ : hd.heap_39 w.params = hd.heap_39 w.params) (_ : PySem.Challenge.rw_ll0027_01 = PySem.Challenge.rw_ll0027_01) : PySem.Challenge.rw_ll0027_01.row.prog = PySem.Challenge.rw_ll0027_01.row.prog ∧ hd.heap_39 w.params = hd.heap_39 w.params := by
  k_fill
  exact ⟨rfl, rfl⟩
theorem fn59 (w : World) : ∃ o, (hd.heap_39 w.params).lookup 59 = some o ∧ ∃ fd, o.data = .func fd := by
  apply Exists.intro
  apply And.intro
  · k_is
  · exact ⟨_, rfl⟩
theorem fn44 (w : World) : ∃ o, (hd.heap_39 w.params).lookup 44 = some o ∧ ∃ fd, o.data = .func fd := by
  apply Exists.intro
  apply And.intro
  · k_is
  · exact ⟨_, rfl⟩
theorem fn74 (w : World) : ∃ o, (hd.heap_39 w.params).lookup 74 = some o ∧ ∃ fd, o.data = .func fd := by
  apply Exists.intro
  apply And.intro
  · k_is
  · exact ⟨_, rfl⟩
theorem kept_K {M : Model} {w : World} {h₀ h : Heap} {L a : Addr} {m : Str → Option Value} (F : Fr h₀ L h m) (X : (hd.heap_39 w.params).In h₀) (hf : ∃ o, (hd.heap_39 w.params).lookup a = some o ∧ ∃ fd, o.data = .func fd) : Kept M h (.ref a) := by
  obtain ⟨o, ho, fd, hd⟩ := hf
  exact kept_fn (F.keep _ _ (X _ _ ho)) hd
noncomputable def toDue : Dec → Due
  | .idx => .stop
  | .val => .long
  | .ok v e => .pair v e
theorem news_new {h₀ h h' : Heap} {L : Addr} {m : Str → Option Value} {news : List (Addr × Obj)} {o : Obj} (F : Fr h₀ L h m) (N : News h₀ L h news) (ho : h'.get? h.objs.size = some o) (hk : ∀ x q, h.get? x = some q → h'.get? x = some q) : News h₀ L h' ((h.objs.size, o) :: news) := fun p hp => by
  rcases List.mem_cons.mp hp with rfl | hp
  · exact ⟨ho, (ns_lt F).symm, new_none F⟩
  · exact news_ext N hk p hp
section
variable {w : World} {A₀ A : Around} {s : Shared} {base h₀ : Heap} {L : Addr} {m mg mb : Str → Option Value} {env : Env} {news rest : List (Addr × Obj)} {mean : ExcName → Option Value}
  {Q : Value → Shared → Prop} {E : Value → Shared → Prop}
set_option maxHeartbeats 4000000 in
theorem found_c (B : Below A₀ h₀ [] h₀) (X₀ : (hd.heap_39 w.params).In h₀) (T : Top hd.view_39 LS mean mg mb h₀) (hA : A.frames = some [env]) (hf : env.frame = some L) (hke : env.scope.kind = .function)
    (F : Fr h₀ L s.heap m) (N : News h₀ L s.heap news) (hh : A.handled = none) (hroom : A.depth + 1 < recursionLimit) (hun : A.units ≤ 900) {l : Addr} {vs : List Value} {ns : List Int} {c : Nat} (hl : (l, listOf vs.toArray c) ∈ news) (hi : IntsAre vs ns)
    (ho : ∀ n ∈ ns, 0 ≤ n ∧ n < 256) (hz : ns.length ≤ 900) {at₀ : Int} {u : Tok} (h0 : 0 ≤ at₀) (h1 : at₀ ≤ ns.length)
    (k : ∀ h' tk x news', (∀ p ∈ news, p ∈ news') → DueIs news' x (toDue (decS ns at₀)) → Fr h₀ L h' m → News h₀ L h' news' → Q x { s with heap := h', toks := tk }) :
    wpG (model PySem.Challenge.rw_ll0027_01.row.prog w) A (call (.ref 74) [.ref l, .int at₀ u]) Q E s := by
  have X₁ := X₀.keeps F.keep
  refine wpG_call ?_
  k_dflt (refine' defGS B F X₀ N T hA hf hke ?k6 ?k7 (by omega) ?k9 ?kB ?_ ?c5 ?c2 ?c3 ?c4)
  walk_at "my enter"
  intro g' L' h' FG' F' N' B' X' T' D' l1
  (try dsimp only)
  generalize s.toks + _ = tk0
  have hvl : vs.length ≤ sizeLine := by rw [← ints_len hi]; exact Nat.le_trans hz (by decide)
  refine execsG_cons (tryG (execsG_cons (returnG (ifExpG ?_))))
  clear F N
  k_steps
  · refine callG ?_
    k_steps
    refine callWithG (argsG_cons (callG ?_))
    k_steps
    refine callWithG (argsG_cons (wpG_of ?_))
    k_steps
    rename Fr _ _ _ _ => F2
    rename News _ _ _ _ => N2
    refine argsG_nil ⟨kept_type, ba_call (byteArr ns) (.inr ⟨l, vs, ns, rfl, list_in N2 hl, hi, ho, rfl, Nat.le_trans hz (by decide)⟩) fun h3 tk3 hb3 hk3 => ?_⟩
    have F3 := fr_ext F2 hk3
    have N3 := news_new F2 N2 hb3 hk3
    clear F2 N2
    refine argsG_cons (wpG_of ?_)
    k_steps
    rename Fr _ _ _ _ => F2
    rename News _ _ _ _ => N2
    refine argsG_nil ⟨kept_K F2 X' (fn59 w), wpG_of ?_⟩
    refine' dec_c (b := byteArr ns) B' X' T' ?q1 ?q2 ?q3 ?qF ?qN ?q4 ?q5 ?q6 ?q7 ?q8 ?q9 ?q10 ?q11 ?q12 ?qk ?qe
    case q1 => exact Around.frames_deeper hA
    case q2 => rfl
    case q3 => rfl
    case qF => exact F2
    case qN => exact N2
    case q4 => exact hh
    case q5 => show A.depth + 1 < _; omega
    case q6 => show A.units + 3 ≤ _; omega
    case q7 => exact .inr ⟨_, rfl, .head _⟩
    case q8 => exact octs_byteArr ho
    case q9 => rw [byteArr_size]; omega
    case q10 => exact .inr ⟨_, rfl⟩
    case q11 => exact h0
    case q12 => omega
    case qk =>
      intro h4 tk4 x4 a4 v4 e4 t4 u4 hdec hx4 F4 N4
      subst hx4
      refine leaveS0_ F4 N4 KtsTurn.refl fun F₁ N₁ => ?_
      exact k _ _ _ _ (fun p hp => .tail _ (.tail _ hp)) (by rw [hdec]; exact .pair (.head _)) F₁ N₁
    case qe =>
      intro h3 tk3 e3 X3 G3 hX RS hF hU
      refine kts_lookSN RS hF B' hU D' fun h4 R4 U4 => ?_
      rcases hX with ⟨hs, rfl⟩ | ⟨hs, rfl⟩
      · refine hit_SN0 (KF := hd.heap_39 w.params) R4 hF B' U4 X₀ T D' KtsTurn.refl (by kts_test) fun h5 g5 T5 F5 N5 K5 X5 P5 D5 => ?_
        k_steps
        rename Fr h₀ _ _ _ => F8
        rename News h₀ _ _ _ => N8
        refine k _ _ _ _ ?_ ?_ F8 N8
        · intro p hp; exact .tail _ hp
        · rw [hs]; exact .stop _
      · refine pass_SN (KF := hd.heap_39 w.params) R4 hF B' U4 X₀ T D' (by kts_test) fun h5 R5 U5 => ?_
        refine hit_SN0 (KF := hd.heap_39 w.params) R5 hF B' U5 X₀ T D' KtsTurn.refl (by kts_test) fun h5 g5 T5 F5 N5 K5 X5 P5 D5 => ?_
        k_steps
        rename Fr h₀ _ _ _ => F8
        rename News h₀ _ _ _ => N8
        refine k _ _ _ _ ?_ ?_ F8 N8
        · intro p hp; exact .tail _ hp
        · rw [hs]; exact .long _
  · refine wpG_of ?_
    k_steps
    rename Fr _ _ _ _ => F2
    rename News _ _ _ _ => N2
    refine ⟨call_bytes_ints (list_in N2 hl) hi ho hvl hh fun h3 t3 k3 hk3 => ?_⟩
    have F3 := fr_ext F2 hk3
    have N3 := news_ext N2 hk3
    clear F2 N2
    k_steps
    rename Fr _ _ _ _ => F2
    rename News _ _ _ _ => N2
    have hat : at₀ = 0 := by omega
    refine ⟨?_⟩
    refine' dec_c (x := .bytes (byteArr ns) t3) (b := byteArr ns) (p := at₀) B' X' T' ?q1 ?q2 ?q3 ?qF ?qN ?q4 ?q5 ?q6 ?q7 ?q8 ?q9 ?q10 ?q11 ?q12 ?qk ?qe
    case q1 => exact Around.frames_deeper hA
    case q2 => rfl
    case q3 => rfl
    case qF => exact F2
    case qN => exact N2
    case q4 => exact hh
    case q5 => show A.depth + 1 < _; omega
    case q6 => show A.units + 3 ≤ _; omega
    case q7 => exact .inl ⟨_, rfl⟩
    case q8 => exact octs_byteArr ho
    case q9 => rw [byteArr_size]; omega
    case q10 => exact .inl ⟨rfl, hat⟩
    case q11 => exact h0
    case q12 => omega
    case qk =>
      intro h4 tk4 x4 a4 v4 e4 t4 u4 hdec hx4 F4 N4
      subst hx4
      refine leaveS0_ F4 N4 KtsTurn.refl fun F₁ N₁ => ?_
      exact k _ _ _ _ (fun p hp => .tail _ hp) (by rw [hdec]; exact .pair (.head _)) F₁ N₁
    case qe =>
      intro h3 tk3 e3 X3 G3 hX RS hF hU
      refine kts_lookSN RS hF B' hU D' fun h4 R4 U4 => ?_
      rcases hX with ⟨hs, rfl⟩ | ⟨hs, rfl⟩
      · refine hit_SN0 (KF := hd.heap_39 w.params) R4 hF B' U4 X₀ T D' KtsTurn.refl (by kts_test) fun h5 g5 T5 F5 N5 K5 X5 P5 D5 => ?_
        k_steps
        rename Fr h₀ _ _ _ => F8
        rename News h₀ _ _ _ => N8
        refine k _ _ _ _ ?_ ?_ F8 N8
        · intro p hp; exact hp
        · rw [hs]; exact .stop _
      · refine pass_SN (KF := hd.heap_39 w.params) R4 hF B' U4 X₀ T D' (by kts_test) fun h5 R5 U5 => ?_
        refine hit_SN0 (KF := hd.heap_39 w.params) R5 hF B' U5 X₀ T D' KtsTurn.refl (by kts_test) fun h5 g5 T5 F5 N5 K5 X5 P5 D5 => ?_
        k_steps
        rename Fr h₀ _ _ _ => F8
        rename News h₀ _ _ _ => N8
        refine k _ _ _ _ ?_ ?_ F8 N8
        · intro p hp; exact hp
        · rw [hs]; exact .long _
end
end
section
structure Nxt (P : Shared → Prop) (f : Flow) (s : Shared) : Prop where
  go : f = .next ∧ P s
theorem execsG_cut {M : Model} {A : Around} {E : Value → Shared → Prop} {s : Shared} {env : Env} {st : Stmt} {rest : List Stmt} {Q : Flow → Shared → Prop} (P : Shared → Prop)
    (h1 : wpG M A (exec st env) (Nxt P) (fun _ _ => False) s) (h2 : ∀ s', P s' → wpG M A (execs rest env) Q E s') : wpG M A (execs (st :: rest) env) Q E s :=
  execsG_cons (wpG_mono h1 (fun f s' h => by obtain ⟨rfl, hp⟩ := h.go; exact h2 s' hp) fun _ _ e => e.elim)
noncomputable def lawF : Stmt := PySem.Challenge.pw_ll0027_01.main.body.getD 17 (.Pass default)
noncomputable def lawB : List Stmt := match lawF with | .FunctionDef _ _ b _ _ _ _ _ _ _ => b | _ => []
noncomputable def lawS : Scope := match lawF with | .FunctionDef _ _ _ _ _ _ s _ _ _ => s | _ => default
noncomputable def lawSt (i : Nat) : Stmt := lawB.getD i (.Pass default)
/-- what stands while the law runs -/
structure LawAt (w : World) (s₁ : Shared) (mg mb : Str → Option Value) (mean : ExcName → Option Value) (l : Addr) (vs : List Value) (ns : List Int) : Prop where
  X : (hd.heap_39 w.params).In s₁.heap
  T : Top hd.view_39 LS mean mg mb s₁.heap
  B : Below callerA s₁.heap [] s₁.heap
  l : s₁.heap.IsList l vs.toArray
  i : IntsAre vs ns
  z : ns.length ≤ 63
/-- a state of the law -/
noncomputable def At (s₁ : Shared) (L : Addr) (P : (Str → Option Value) → List (Addr × Obj) → Prop) (s : Shared) : Prop :=
  ∃ h tk m news, s = { s₁ with heap := h, toks := tk } ∧ Fr s₁.heap L h m ∧ News s₁.heap L h news ∧ P m news
theorem At.mk {s₁ : Shared} {L : Addr} {P : (Str → Option Value) → List (Addr × Obj) → Prop} {h : Heap} {tk : Nat} {m : Str → Option Value} {news : List (Addr × Obj)} (F : Fr s₁.heap L h m) (N : News s₁.heap L h news) (hP : P m news) : At s₁ L P { s₁ with heap := h, toks := tk } :=
  ⟨h, tk, m, news, rfl, F, N, hP⟩
theorem news_sub {h₀ h : Heap} {L : Addr} {news news' : List (Addr × Obj)} (N : News h₀ L h news) (hs : ∀ p ∈ news', p ∈ news) : News h₀ L h news' := fun p hp => N p (hs p hp)
theorem news_ne {h₀ h : Heap} {L a b : Addr} {o o' : Obj} {news : List (Addr × Obj)} (N : News h₀ L h news) (h1 : (a, o) ∈ news) (h2 : (b, o') ∈ news) (hne : o ≠ o') : a ≠ b := fun e => by
  subst e
  have := (N _ h1).1.symm.trans (N _ h2).1
  exact hne (Option.some.inj this)
theorem news_first {h₀ h : Heap} {L : Addr} {p q : Addr × Obj} {rest own : List (Addr × Obj)} (N : News h₀ L h (p :: rest)) (hq : q ∈ rest) (ho : ∀ x ∈ own, x ∈ rest) : News h₀ L h (own ++ [p, q]) := fun x hx => by
  rcases List.mem_append.mp hx with hx | hx
  · exact N x (.tail _ (ho x hx))
  · rcases List.mem_cons.mp hx with rfl | hx
    · exact N _ (.head _)
    · rw [List.mem_singleton.mp hx]; exact N _ (.tail _ hq)
noncomputable def rowOne (n : Int) : List Int := List.replicate ((n.fdiv 128).fmod 6).toNat (128 + n.fmod 128) ++ List.replicate ((n.fdiv 768).fmod 3).toNat 128 ++ [(n.fdiv 2304).fmod 256]
noncomputable def rowOf : List Int → List Int
  | [] => []
  | n :: r => rowOne n ++ rowOf r
theorem rowOf_snoc (ns : List Int) (n : Int) : rowOf (ns ++ [n]) = rowOf ns ++ rowOne n := by
  induction ns with
  | nil => simp [rowOf]
  | cons a r ih => simp [rowOf, ih]
theorem rowOne_len (n : Int) : (rowOne n).length ≤ 8 := by
  unfold rowOne
  simp only [List.length_append, List.length_replicate, List.length_cons, List.length_nil]
  have h1 := Int.fmod_lt_of_pos (n.fdiv 128) (show (0 : Int) < 6 by decide)
  have h2 := Int.fmod_lt_of_pos (n.fdiv 768) (show (0 : Int) < 3 by decide)
  omega
theorem rowOf_len (ns : List Int) : (rowOf ns).length ≤ 8 * ns.length := by
  induction ns with
  | nil => simp [rowOf]
  | cons a r ih => simp only [rowOf, List.length_append, List.length_cons]; have := rowOne_len a; omega
noncomputable def tailRow : List Int := [130, 128, 0] ++ List.replicate 9 255 ++ [1, 255, 255, 255, 255, 15] ++ List.replicate 11 128
noncomputable def theRow (ns : List Int) : List Int := rowOf (ns.take 10) ++ tailRow
end
section
local macro_rules | `(tactic| walk_at "eval Name") => `(tactic| (k_here; k_dflt (refine' nameX_L ?k1 ?k2 ?_ ?a ?b ?c; (case k1 => k_asm); (case k2 => assumption); (case a => rfl); (case b => rfl); (case c => decide); k_whole)))
section
local macro_rules | `(tactic| walk_at "my pad") => `(tactic| skip)
theorem offD2 : True := by
  w_top off
  exact True.intro
local macro_rules | `(tactic| walk_at "exec For Name Subscript cons nil") => `(tactic| refine' halt ?_)
local macro_rules | `(tactic| walk_at "pyIter ref") => `(tactic| refine' halt ?_)
theorem filledD2 (w : World) (_ : hd.heap_39 w.params = hd.heap_39 w.params) (_ : PySem.Challenge.rw_ll0027_01 = PySem.Challenge.rw_ll0027_01) : PySem.Challenge.rw_ll0027_01.row.prog = PySem.Challenge.rw_ll0027_01.row.prog ∧ hd.heap_39 w.params = hd.heap_39 w.params := by
  k_fill
  exact ⟨rfl, rfl⟩
section
variable {w : World} {s₁ : Shared} {mg mb : Str → Option Value} {mean : ExcName → Option Value} {l L fa : Addr} {cd : Value} {vs : List Value} {ns : List Int}
set_option maxHeartbeats 4000000 in
theorem st0 (H : LawAt w s₁ mg mb mean l vs ns) {s : Shared} {cA : Addr} {oC : Obj} (hP : At s₁ L (fun m news => news = [(cA, oC)] ∧ m (Str.ofString "script") = some (.ref l)) s) :
    wpG (model PySem.Challenge.rw_ll0027_01.row.prog w) (callerA.deeper (envOfC (Str.ofString "law") lawS L fa cd)) (exec (lawSt 0) (envOfC (Str.ofString "law") lawS L fa cd))
      (Nxt (At s₁ L (fun m news => news = [(cA, oC)] ∧ m (Str.ofString "script") = some (.ref l) ∧ ∃ t, m (Str.ofString "first") = some (.int (ns.headD 0) t)))) (fun _ _ => False) s := by
  conv in lawSt 0 => whnf
  refine wpG_gen fun QQ EE hQQ _ => ?_
  obtain ⟨h, tk, m, news, rfl, F, N, rfl, hm⟩ := hP
  obtain ⟨X, T, B, hl, hi, hz⟩ := H
  refine wpG_of ?_
  k_steps
  all_goals rename Fr _ _ _ _ => F8
  all_goals rename News _ _ _ _ => N8
  all_goals refine hQQ _ _ ⟨rfl, At.mk F8 N8 ⟨rfl, hm, ?_⟩⟩
  · obtain _ | ⟨n, r⟩ := ns
    · exact ⟨_, rfl⟩
    · exact ⟨_, rfl⟩
  · obtain _ | ⟨n, r⟩ := ns
    · exact ⟨_, rfl⟩
    · exact absurd (Nat.zero_lt_succ r.length) (by assumption)
set_option maxHeartbeats 4000000 in
theorem st1 (H : LawAt w s₁ mg mb mean l vs ns) {s : Shared} {cA : Addr} {oC : Obj} (hP : At s₁ L (fun m news => news = [(cA, oC)] ∧ m (Str.ofString "script") = some (.ref l) ∧ ∃ t, m (Str.ofString "first") = some (.int (ns.headD 0) t)) s) :
    wpG (model PySem.Challenge.rw_ll0027_01.row.prog w) (callerA.deeper (envOfC (Str.ofString "law") lawS L fa cd)) (exec (lawSt 1) (envOfC (Str.ofString "law") lawS L fa cd))
      (Nxt (At s₁ L (fun m news => ∃ rA k, news = [(rA, listOf #[] k), (cA, oC)] ∧ m (Str.ofString "script") = some (.ref l) ∧ (∃ t, m (Str.ofString "first") = some (.int (ns.headD 0) t)) ∧ m (Str.ofString "row") = some (.ref rA)))) (fun _ _ => False) s := by
  conv in lawSt 1 => whnf
  refine wpG_gen fun QQ EE hQQ _ => ?_
  obtain ⟨h, tk, m, news, rfl, F, N, rfl, hm, t, hf⟩ := hP
  obtain ⟨X, T, B, hl, hi, hz⟩ := H
  refine wpG_of ?_
  k_steps
  rename Fr _ _ _ _ => F8
  rename News _ _ _ _ => N8
  exact hQQ _ _ ⟨rfl, At.mk F8 N8 ⟨_, _, rfl, hm, ⟨_, hf⟩, rfl⟩⟩
set_option maxHeartbeats 4000000 in
theorem st2 (H : LawAt w s₁ mg mb mean l vs ns) {s : Shared} {cA : Addr} {oC : Obj} (hP : At s₁ L (fun m news => ∃ rA k, news = [(rA, listOf #[] k), (cA, oC)] ∧ m (Str.ofString "script") = some (.ref l) ∧ (∃ t, m (Str.ofString "first") = some (.int (ns.headD 0) t)) ∧ m (Str.ofString "row") = some (.ref rA)) s) :
    wpG (model PySem.Challenge.rw_ll0027_01.row.prog w) (callerA.deeper (envOfC (Str.ofString "law") lawS L fa cd)) (exec (lawSt 2) (envOfC (Str.ofString "law") lawS L fa cd))
      (Nxt (At s₁ L (fun m news => ∃ rA ws k, news = [(rA, listOf (List.toArray ws) k), (cA, oC)] ∧ IntsAre ws (rowOf (ns.take 10)) ∧ m (Str.ofString "script") = some (.ref l) ∧ (∃ t, m (Str.ofString "first") = some (.int (ns.headD 0) t)) ∧ m (Str.ofString "row") = some (.ref rA)))) (fun _ _ => False) s := by
  conv in lawSt 2 => whnf
  refine wpG_gen fun QQ EE hQQ _ => ?_
  obtain ⟨h, tk, m, news, rfl, F, N, ⟨rA, k, rfl, hm, ⟨t, hf⟩, hr⟩⟩ := hP
  obtain ⟨X, T, B, hl, hi, hz⟩ := H
  refine wpG_of ?_
  refine for_my s₁.heap ?_ rfl rfl
  k_steps
  rename Fr _ _ _ _ => F5
  rename News _ _ _ _ => N5
  rename IntsAre _ (List.take _ _) => hI5
  have hl5 := list_in N5 (List.mem_cons_self ..)
  refine ⟨src_list rfl F5 N5 hl5 fun I fp wr St h2 S st F3 N3 ni hfp => ⟨_, I, fp, wr, _, _, St, _, _,
    fun i m₁ news₁ => ∃ rA ws k, news₁ = [(rA, listOf (List.toArray ws) k), (cA, oC)] ∧ IntsAre ws (rowOf ((ns.take 10).take i)) ∧ m₁ (Str.ofString "script") = some (.ref l) ∧ (∃ t, m₁ (Str.ofString "first") = some (.int (ns.headD 0) t)) ∧ m₁ (Str.ofString "row") = some (.ref rA), rfl, S, st, F3, (news_sub N3 ?_ : News _ _ _ [(rA, listOf (List.toArray []) k), (cA, oC)]), ?_, ?_, ?_, ?_⟩⟩
  · intro p hp; exact .tail _ hp
  · intro p hp; exact ni p (.tail _ hp)
  · exact ⟨rA, [], k, rfl, .nil, hm, ⟨_, hf⟩, hr⟩
  · intro i v m₁ news₁ h₁ tk own hi1 hP hJ hn1 F4 N4 hown
    obtain ⟨rA, ws, k, rfl, hws, hm, ⟨t, hf⟩, hr⟩ := hJ
    obtain ⟨n, t1, hn, rfl⟩ := ints_at hI5 hP
    have hrl := rowOf_len ((ns.take 10).take i)
    rw [List.length_take, List.length_take] at hrl
    have N6 : News _ _ _ ((rA, listOf (List.toArray ws) k) :: (cA, oC) :: own) := news_sub N4 fun p hp => by simp only [List.mem_cons, List.mem_append, List.not_mem_nil, or_false] at hp ⊢; rcases hp with h | h | h <;> simp [h]
    clear F3 N3 F5 N5 N4
    k_steps
    rename Fr _ _ _ _ => F8
    rename News _ _ _ _ => N8
    rename IntsAre _ _ => hI8
    have N9 := news_first (own := own) (q := (cA, oC)) N8 (by simp) (fun x hx => by simp [hx])
    refine turn_of F8 N9 ?_ ⟨_, _, _, rfl, ?_, hm, ⟨_, hf⟩, rfl⟩
    · intro p hp
      rcases List.mem_cons.mp hp with h | h
      · subst h; exact .inl rfl
      · exact hn1 p (.tail _ h)
    · rw [take_snoc hn, rowOf_snoc]
      refine eq_ints hI8 ?_
      simp only [rowOne, List.flatten_replicate_singleton, List.append_assoc]
  · intro h2 tk m₁ news₁ F4 N4 ni hJ
    obtain ⟨rA, ws, k, rfl, hws, hm, ⟨t, hf⟩, hr⟩ := hJ
    rw [List.take_of_length_le (by rw [ints_len hI5]; exact Nat.le_refl _)] at hws
    exact hQQ _ _ ⟨rfl, At.mk F4 N4 ⟨rA, ws, k, rfl, hws, hm, ⟨t, hf⟩, hr⟩⟩
end
end
section
theorem offD3 : True := by
  w_top off
  exact True.intro
theorem filledD3 (w : World) (_ : hd.heap_39 w.params = hd.heap_39 w.params) (_ : PySem.Challenge.rw_ll0027_01 = PySem.Challenge.rw_ll0027_01) : PySem.Challenge.rw_ll0027_01.row.prog = PySem.Challenge.rw_ll0027_01.row.prog ∧ hd.heap_39 w.params = hd.heap_39 w.params := by
  k_fill
  exact ⟨rfl, rfl⟩
theorem theRow_len (ns : List Int) : 29 ≤ (theRow ns).length ∧ (theRow ns).length ≤ 109 := by
  unfold theRow
  have h := rowOf_len (ns.take 10)
  rw [List.length_append]
  rw [List.length_take] at h
  have e : tailRow.length = 29 := rfl
  omega
section
variable {w : World} {s₁ : Shared} {mg mb : Str → Option Value} {mean : ExcName → Option Value} {l L fa : Addr} {cd : Value} {vs : List Value} {ns : List Int}
set_option maxHeartbeats 4000000 in
theorem st3 (H : LawAt w s₁ mg mb mean l vs ns) {s : Shared} {cA : Addr} {oC : Obj} (hP : At s₁ L (fun m news => ∃ rA ws k, news = [(rA, listOf (List.toArray ws) k), (cA, oC)] ∧ IntsAre ws (rowOf (ns.take 10)) ∧ m (Str.ofString "script") = some (.ref l) ∧ (∃ t, m (Str.ofString "first") = some (.int (ns.headD 0) t)) ∧ m (Str.ofString "row") = some (.ref rA)) s) :
    wpG (model PySem.Challenge.rw_ll0027_01.row.prog w) (callerA.deeper (envOfC (Str.ofString "law") lawS L fa cd)) (exec (lawSt 3) (envOfC (Str.ofString "law") lawS L fa cd))
      (Nxt (At s₁ L (fun m news => ∃ rA ws k, news = [(rA, listOf (List.toArray ws) k), (cA, oC)] ∧ IntsAre ws (theRow ns) ∧ m (Str.ofString "script") = some (.ref l) ∧ (∃ t, m (Str.ofString "first") = some (.int (ns.headD 0) t)) ∧ m (Str.ofString "row") = some (.ref rA)))) (fun _ _ => False) s := by
  conv in lawSt 3 => whnf
  refine wpG_gen fun QQ EE hQQ _ => ?_
  obtain ⟨h, tk, m, news, rfl, F, N, ⟨rA, ws, k, rfl, hws, hm, ⟨t, hf⟩, hr⟩⟩ := hP
  obtain ⟨X, T, B, hl, hi, hz⟩ := H
  have hrl := rowOf_len (ns.take 10)
  rw [List.length_take] at hrl
  refine wpG_of ?_
  k_steps
  rename Fr _ _ _ _ => F8
  rename News _ _ _ _ => N8
  rename IntsAre _ _ => hI8
  have N9 := news_first (own := []) (q := (cA, oC)) N8 (by simp) (fun x hx => by simp at hx)
  refine hQQ _ _ ⟨rfl, At.mk F8 N9 ⟨_, _, _, rfl, eq_ints hI8 ?_, hm, ⟨_, hf⟩, rfl⟩⟩
  simp only [theRow, tailRow, List.append_assoc]
  rfl
set_option maxHeartbeats 4000000 in
theorem st4 (H : LawAt w s₁ mg mb mean l vs ns) {s : Shared} {cA : Addr} {oC : Obj} (hP : At s₁ L (fun m news => ∃ rA ws k, news = [(rA, listOf (List.toArray ws) k), (cA, oC)] ∧ IntsAre ws (theRow ns) ∧ m (Str.ofString "script") = some (.ref l) ∧ (∃ t, m (Str.ofString "first") = some (.int (ns.headD 0) t)) ∧ m (Str.ofString "row") = some (.ref rA)) s) :
    wpG (model PySem.Challenge.rw_ll0027_01.row.prog w) (callerA.deeper (envOfC (Str.ofString "law") lawS L fa cd)) (exec (lawSt 4) (envOfC (Str.ofString "law") lawS L fa cd))
      (Nxt (At s₁ L (fun m news => ∃ rA ws k bg, 0 ≤ bg ∧ bg < ((theRow ns).length : Int) ∧ news = [(rA, listOf (List.toArray ws) k), (cA, oC)] ∧ IntsAre ws (theRow ns) ∧ m (Str.ofString "script") = some (.ref l) ∧ (∃ t, m (Str.ofString "first") = some (.int (ns.headD 0) t)) ∧ m (Str.ofString "row") = some (.ref rA) ∧
        ∃ t, m (Str.ofString "begin") = some (.int bg t)))) (fun _ _ => False) s := by
  conv in lawSt 4 => whnf
  refine wpG_gen fun QQ EE hQQ _ => ?_
  obtain ⟨h, tk, m, news, rfl, F, N, ⟨rA, ws, k, rfl, hws, hm, ⟨t, hf⟩, hr⟩⟩ := hP
  obtain ⟨X, T, B, hl, hi, hz⟩ := H
  obtain ⟨hr1, hr2⟩ := theRow_len ns
  refine wpG_of ?_
  k_steps
  rename Fr _ _ _ _ => F8
  rename News _ _ _ _ => N8
  exact hQQ _ _ ⟨rfl, At.mk F8 N8 ⟨rA, ws, k, _, Int.fmod_nonneg_of_pos _ (by omega), Int.fmod_lt_of_pos _ (by omega), rfl, hws, hm, ⟨_, hf⟩, hr, _, rfl⟩⟩
set_option maxHeartbeats 4000000 in
theorem st5 (H : LawAt w s₁ mg mb mean l vs ns) {s : Shared} {cA : Addr} {oC : Obj} (hP : At s₁ L (fun m news => ∃ rA ws k bg, 0 ≤ bg ∧ bg < ((theRow ns).length : Int) ∧ news = [(rA, listOf (List.toArray ws) k), (cA, oC)] ∧ IntsAre ws (theRow ns) ∧ m (Str.ofString "script") = some (.ref l) ∧ (∃ t, m (Str.ofString "first") = some (.int (ns.headD 0) t)) ∧ m (Str.ofString "row") = some (.ref rA) ∧
        ∃ t, m (Str.ofString "begin") = some (.int bg t)) s) :
    wpG (model PySem.Challenge.rw_ll0027_01.row.prog w) (callerA.deeper (envOfC (Str.ofString "law") lawS L fa cd)) (exec (lawSt 5) (envOfC (Str.ofString "law") lawS L fa cd))
      (Nxt (At s₁ L (fun m news => ∃ tA rA ws k k' bg, tA ≠ rA ∧ 0 ≤ bg ∧ bg < ((theRow ns).length : Int) ∧ news = [(tA, listOf #[] k'), (rA, listOf (List.toArray ws) k), (cA, oC)] ∧ IntsAre ws (theRow ns) ∧ m (Str.ofString "script") = some (.ref l) ∧ (∃ t, m (Str.ofString "first") = some (.int (ns.headD 0) t)) ∧ m (Str.ofString "row") = some (.ref rA) ∧
        (∃ t, m (Str.ofString "begin") = some (.int bg t)) ∧ m (Str.ofString "told") = some (.ref tA)))) (fun _ _ => False) s := by
  conv in lawSt 5 => whnf
  refine wpG_gen fun QQ EE hQQ _ => ?_
  obtain ⟨h, tk, m, news, rfl, F, N, ⟨rA, ws, k, bg, b1, b2, rfl, hws, hm, ⟨t, hf⟩, hr, ⟨tb, hb⟩⟩⟩ := hP
  obtain ⟨X, T, B, hl, hi, hz⟩ := H
  refine wpG_of ?_
  k_steps
  rename Fr _ _ _ _ => F8
  rename News _ _ _ _ => N8
  refine hQQ _ _ ⟨rfl, At.mk F8 N8 ⟨_, rA, ws, k, _, bg, ?_, b1, b2, rfl, hws, hm, ⟨_, hf⟩, hr, ⟨_, hb⟩, rfl⟩⟩
  refine neN ?_; omega
end
end
section
local macro_rules | `(tactic| walk_at "call ref") => `(tactic| refine' halt ?_)
section
open PySem.SeqAt
theorem offE1 : True := by
  w_top off
  exact True.intro
local macro_rules | `(tactic| walk_at "my ne") => `(tactic| first | assumption | exact Ne.symm (by assumption) | (refine neN ?_; omega))
local macro_rules | `(tactic| walk_at "my all") => `(tactic| first | assumption | exact List.forall_mem_nil _ | (refine' List.forall_mem_cons.mpr ⟨?a, ?b⟩; (case a => walk_at "my ne"); (case b => walk_at "my all")))
local macro_rules | `(tactic| walk_at "my updF") => `(tactic| first | (refine' UpdF.head ?a; (case a => walk_at "my all")) | (refine' UpdF.tail ?a ?b; (case a => walk_at "my ne"); (case b => walk_at "my updF")))
theorem filledE1 (w : World) (_ : hd.heap_39 w.params = hd.heap_39 w.params) (_ : PySem.Challenge.rw_ll0027_01 = PySem.Challenge.rw_ll0027_01) : PySem.Challenge.rw_ll0027_01.row.prog = PySem.Challenge.rw_ll0027_01.row.prog ∧ hd.heap_39 w.params = hd.heap_39 w.params := by
  k_fill
  exact ⟨rfl, rfl⟩
noncomputable def loopB : List Stmt := match lawSt 6 with | .For _ _ b _ _ => b | _ => []
noncomputable def tSt (i : Nat) : Stmt := loopB.getD i (.Pass default)
/-- what stands in a turn of the law's first loop -/
structure TurnC (L cA tA rA : Addr) (own : List (Addr × Obj)) (ws tvs : List Value) (row ts : List Int) : Prop where
  ca : cA = L + 1
  ct : cA ≠ tA
  cr : cA ≠ rA
  tr : tA ≠ rA
  oc : ∀ p ∈ own, p.1 ≠ cA
  ot : ∀ p ∈ own, p.1 ≠ tA
  iw : IntsAre ws row
  it : IntsAre tvs ts
  ro : ∀ n ∈ row, 0 ≤ n ∧ n < 256
  rl : row.length ≤ 109
noncomputable def dueData : Due → PyData
  | .long => .str (Str.ofString "long")
  | .stop => .str (Str.ofString "end")
  | .aside => .str (Str.ofString "aside")
  | .pair v e => .tuple [.int v, .int e]
theorem due_reads {h₀ h : Heap} {L : Addr} {news dl : List (Addr × Obj)} {x : Value} {D : Due} (N : News h₀ L h news) (hd : DueIs dl x D) (hs : ∀ p ∈ dl, p ∈ news) : Reads h x (dueData D) [] := by
  cases hd with
  | long t => exact .str _ _
  | stop t => exact .str _ _
  | aside t => exact .str _ _
  | pair hm => exact .tuple (N _ (hs _ hm)).1 rfl rfl (.cons (as := []) (.int _ _) (.cons (as := []) (.int _ _) .nil))
theorem due_shaped (D : Due) : shaped (dueData D) = true := by cases D <;> first | rfl | decide +kernel
theorem due_mix (D D' : Due) : noMix (dueData D) (dueData D') = true := by cases D <;> cases D' <;> simp [dueData, noMix, noMixAll]
theorem due_same (D : Due) : PySem.Spec.same (dueData D) (dueData D) = true := by cases D <;> simp [dueData, PySem.Spec.same, PySem.Spec.sameAll]
/-- the names that stay -/
structure LB (l rA tA : Addr) (f0 : Int) (m : Str → Option Value) : Prop where
  sc : m (Str.ofString "script") = some (.ref l)
  fi : ∃ t, m (Str.ofString "first") = some (.int f0 t)
  ro : m (Str.ofString "row") = some (.ref rA)
  to : m (Str.ofString "told") = some (.ref tA)
section
variable {w : World} {s₁ : Shared} {mg mb : Str → Option Value} {mean : ExcName → Option Value} {l L fa : Addr} {cd : Value} {vs : List Value} {ns : List Int}
theorem LawAt.cx (H : LawAt w s₁ mg mb mean l vs ns) : Cx w (callerA.deeper (envOfC (Str.ofString "law") lawS L fa cd)) s₁.heap L :=
  ⟨callerA, s₁.heap, [], _, mg, mb, mean, H.B, H.X, H.T, rfl, rfl, rfl⟩
set_option maxHeartbeats 4000000 in
theorem tb0 (H : LawAt w s₁ mg mb mean l vs ns) {s : Shared} {cA tA rA : Addr} {own : List (Addr × Obj)} {ws tvs : List Value} {row ts : List Int} (TC : TurnC L cA tA rA own ws tvs row ts) {k k' : Nat} {a : Int} (ha0 : 0 ≤ a) (ha1 : a ≤ row.length) {f0 : Int}
    (hP : At s₁ L (fun m news => ∃ oC v t, oC.data = .cell v ∧ news = (tA, listOf (List.toArray tvs) k') :: (rA, listOf (List.toArray ws) k) :: (cA, oC) :: own ∧ LB l rA tA f0 m ∧ m (Str.ofString "at") = some (.int a t)) s) :
    wpG (model PySem.Challenge.rw_ll0027_01.row.prog w) (callerA.deeper (envOfC (Str.ofString "law") lawS L fa cd)) (exec (tSt 0) (envOfC (Str.ofString "law") lawS L fa cd))
      (Nxt (At s₁ L (fun m news => ∃ oC dv t dl, oC.data = .cell (some dv) ∧ (∀ p ∈ dl, p.1 ≠ cA ∧ p.1 ≠ tA) ∧ DueIs dl dv (dueD (dig (win row a)) a) ∧ news = (cA, oC) :: (tA, listOf (List.toArray tvs) k') :: (rA, listOf (List.toArray ws) k) :: (dl ++ own) ∧ LB l rA tA f0 m ∧
        m (Str.ofString "at") = some (.int a t)))) (fun _ _ => False) s := by
  conv in tSt 0 => whnf
  have C := LawAt.cx (L := L) (fa := fa) (cd := cd) H
  obtain ⟨h, tk, m, news, rfl, F, N, ⟨oC, v, t, hoC, rfl, hb, hat⟩⟩ := hP
  obtain ⟨hsc, ⟨tf, hfi⟩, hr, ht⟩ := hb
  obtain ⟨X, T, B, hl, hi, hz⟩ := H
  obtain ⟨hca, hct, hcr, htr, hoc, hot, hiw, hit, hro, hrl⟩ := TC
  refine wpG_of ?_
  k_steps
  rename Fr _ _ _ _ => F2
  rename News _ _ _ _ => N2
  refine ⟨due_c C F2 N2 rfl (Nat.le_of_ble_eq_true rfl) (Nat.le_of_ble_eq_true rfl) (.tail _ (.head _)) hiw hro (by omega) ha0 ha1 fun h3 tk3 x news3 hs3 hd3 F3 N3 => ?_⟩
  clear F2 N2
  obtain ⟨dl, hdl, hdd, hdm⟩ : ∃ dl, (∀ p ∈ dl, p.1 ≠ cA ∧ p.1 ≠ tA) ∧ DueIs dl x (dueD (dig (win row a)) a) ∧ ∀ p ∈ dl, p ∈ news3 := by
    generalize dueD (dig (win row a)) a = DD at hd3 ⊢
    cases hd3 with
    | long t => exact ⟨[], fun _ h => (nomatch h), .long _, fun _ h => (nomatch h)⟩
    | stop t => exact ⟨[], fun _ h => (nomatch h), .stop _, fun _ h => (nomatch h)⟩
    | aside t => exact ⟨[], fun _ h => (nomatch h), .aside _, fun _ h => (nomatch h)⟩
    | @pair D v e t u hm =>
      refine ⟨[(D, tup [.int v t, .int e u])], fun p hp => ?_, .pair (.head _), fun p hp => ?_⟩
      · rw [List.mem_singleton.mp hp]
        refine ⟨news_ne N3 hm (hs3 _ (.tail _ (.tail _ (.head _)))) fun q => ?_, news_ne N3 hm (hs3 _ (.head _)) fun q => absurd (congrArg Obj.cls q) (by simp)⟩
        rw [← q] at hoC; cases hoC
      · rw [List.mem_singleton.mp hp]; exact hm
  have N4 : News s₁.heap L h3 ((cA, oC) :: (tA, listOf (List.toArray tvs) k') :: (rA, listOf (List.toArray ws) k) :: (dl ++ own)) := news_sub N3 fun p hp => by
    rcases List.mem_cons.mp hp with h | hp
    · exact hs3 _ (by rw [h]; simp)
    rcases List.mem_cons.mp hp with h | hp
    · exact hs3 _ (by rw [h]; simp)
    rcases List.mem_cons.mp hp with h | hp
    · exact hs3 _ (by rw [h]; simp)
    rcases List.mem_append.mp hp with hp | hp
    · exact hdm p hp
    · exact hs3 p (by simp [hp])
  clear N3
  have hU : UpdF cA oC ((cA, oC) :: (tA, listOf (List.toArray tvs) k') :: (rA, listOf (List.toArray ws) k) :: (dl ++ own)) (fun o' => (cA, o') :: (tA, listOf (List.toArray tvs) k') :: (rA, listOf (List.toArray ws) k) :: (dl ++ own)) := .head fun p hp => by
    rcases List.mem_cons.mp hp with h | hp
    · rw [h]; exact hct.symm
    rcases List.mem_cons.mp hp with h | hp
    · rw [h]; exact hcr.symm
    rcases List.mem_append.mp hp with hp | hp
    · exact (hdl p hp).1
    · exact hoc p hp
  refine storeX_C F3 N4 (by rw [hca]; rfl) hU hoC fun h5 o5 F5 N5 d5 => ?_
  exact ⟨rfl, At.mk F5 N5 ⟨_, _, t, dl, d5, hdl, hdd, rfl, ⟨hsc, ⟨tf, hfi⟩, hr, ht⟩, hat⟩⟩
end
end
section
open PySem.SeqAt
set_option linter.unusedVariables false
set_option linter.unusedSimpArgs false
theorem offE2 : True := by
  w_top off
  exact True.intro
theorem due_aside {D : Due} (h : PySem.Spec.same (dueData D) (PyData.str (Str.ofString "aside")) = true) : D = .aside := by
  cases D with
  | aside => rfl
  | long => exact absurd h (by decide +kernel)
  | stop => exact absurd h (by decide +kernel)
  | pair v e => exact absurd h (by simp [dueData, PySem.Spec.same])
theorem filledE2 (w : World) (_ : hd.heap_39 w.params = hd.heap_39 w.params) (_ : PySem.Challenge.rw_ll0027_01 = PySem.Challenge.rw_ll0027_01) : PySem.Challenge.rw_ll0027_01.row.prog = PySem.Challenge.rw_ll0027_01.row.prog ∧ hd.heap_39 w.params = hd.heap_39 w.params := by
  k_fill
  exact ⟨rfl, rfl⟩
section
variable {w : World} {s₁ : Shared} {mg mb : Str → Option Value} {mean : ExcName → Option Value} {l L fa : Addr} {cd : Value} {vs : List Value} {ns : List Int}
set_option maxHeartbeats 4000000 in
theorem tb1 (H : LawAt w s₁ mg mb mean l vs ns) {s : Shared} {tA rA : Addr} {own dl : List (Addr × Obj)} {oC : Obj} {dv : Value} {DD : Due} (hoC : oC.data = .cell (some dv)) (hdd : DueIs dl dv DD) {news : List (Addr × Obj)} {h : Heap} {tk : Nat} {m : Str → Option Value} (F : Fr s₁.heap L h m) (N : News s₁.heap L h ((L + 1, oC) :: news ++ dl ++ own))
    {Q : Flow → Shared → Prop} (kc : DD = .aside → ∀ tk, Q .cont { s₁ with heap := h, toks := tk }) (kn : DD ≠ .aside → ∀ tk, Q .next { s₁ with heap := h, toks := tk }) :
    wpG (model PySem.Challenge.rw_ll0027_01.row.prog w) (callerA.deeper (envOfC (Str.ofString "law") lawS L fa cd)) (exec (tSt 1) (envOfC (Str.ofString "law") lawS L fa cd)) Q (fun _ _ => False) { s₁ with heap := h, toks := tk } := by
  conv in tSt 1 => whnf
  obtain ⟨X, T, B, hl, hi, hz⟩ := H
  refine wpG_of ?_
  have hrd := due_reads N hdd (fun p hp => by simp [hp])
  k_steps
  refine eq_dataH_same hrd (.str _ _) (due_shaped _) (due_shaped .aside) (Nat.le_of_ble_eq_true rfl) (due_mix DD .aside) ?_
  k_steps
  · exact kc (due_aside (by assumption)) _
  · exact kn (fun e => by subst e; rename_i hs _; exact absurd (due_same .aside) (by rw [show dueData Due.aside = PyData.str (Str.ofString "aside") from rfl] at *; simp_all)) _
set_option maxHeartbeats 4000000 in
theorem tb2 (H : LawAt w s₁ mg mb mean l vs ns) {tA rA : Addr} {own dl : List (Addr × Obj)} {oC : Obj} {dv : Value} {DD : Due} {ws : List Value} {row : List Int} {k : Nat} {a : Int} {t : Tok} (hoC : oC.data = .cell (some dv)) (hdd : DueIs dl dv DD) {news : List (Addr × Obj)} {h : Heap} {tk : Nat} {m : Str → Option Value}
    (F : Fr s₁.heap L h m) (N : News s₁.heap L h ((L + 1, oC) :: news ++ dl ++ own)) (hrm : (rA, listOf (List.toArray ws) k) ∈ news) (hiw : IntsAre ws row) (hro : ∀ n ∈ row, 0 ≤ n ∧ n < 256) (hrl : row.length ≤ 109) (ha0 : 0 ≤ a) (ha1 : a ≤ row.length)
    (hr : m (Str.ofString "row") = some (.ref rA)) (hat : m (Str.ofString "at") = some (.int a t)) (hD : toDue (decS row a) = DD)
    {Q : Flow → Shared → Prop} (kn : ∀ h' tk, Fr s₁.heap L h' m → News s₁.heap L h' ((L + 1, oC) :: news ++ dl ++ own) → Q .next { s₁ with heap := h', toks := tk }) :
    wpG (model PySem.Challenge.rw_ll0027_01.row.prog w) (callerA.deeper (envOfC (Str.ofString "law") lawS L fa cd)) (exec (tSt 2) (envOfC (Str.ofString "law") lawS L fa cd)) Q (fun _ _ => False) { s₁ with heap := h, toks := tk } := by
  conv in tSt 2 => whnf
  obtain ⟨X, T, B, hl, hi, hz⟩ := H
  refine ifG (isTrueG_Compare (callG ?_))
  k_steps
  refine callWithG (argsG_cons (wpG_of ?_))
  k_steps
  refine argsG_cons (wpG_of ?_)
  k_steps
  rename Fr _ _ _ _ => F2
  rename News _ _ _ _ => N2
  refine argsG_nil ⟨kept_K F2 X (fn74 w), ?_⟩
  refine' found_c B X T ?q1 ?q2 ?q3 F2 N2 ?q4 ?q5 ?q6 ?q7 hiw hro ?q8 ha0 ha1 ?qk
  case q1 => rfl
  case q2 => rfl
  case q3 => rfl
  case q4 => rfl
  case q5 => exact Nat.le_of_ble_eq_true rfl
  case q6 => exact Nat.le_of_ble_eq_true rfl
  case q7 => exact List.mem_append_left _ (List.mem_append_left _ (.tail _ hrm))
  case q8 => omega
  case qk =>
    intro h3 tk3 x3 news3 hs3 hd3 F3 N3
    rw [hD] at hd3
    have N4 := news_sub N3 (fun p hp => hs3 p hp)
    have hr3 := due_reads N3 hd3 (fun _ h => h)
    have hr4 := due_reads N4 hdd (fun p hp => by simp [hp])
    clear F2 N2
    k_steps
    refine ne_dataH_same hr3 hr4 (due_shaped _) (due_shaped _) (Nat.le_of_ble_eq_true rfl) (due_mix _ _) ?_
    rw [due_same]
    k_steps
    exact execsG_nil (kn _ _ F3 N4)
set_option maxHeartbeats 4000000 in
theorem tb3 (H : LawAt w s₁ mg mb mean l vs ns) {own dl : List (Addr × Obj)} {oC : Obj} {dv : Value} {DD : Due} (hoC : oC.data = .cell (some dv)) (hdd : DueIs dl dv DD) {news : List (Addr × Obj)} {h : Heap} {tk : Nat} {m : Str → Option Value}
    (F : Fr s₁.heap L h m) (N : News s₁.heap L h ((L + 1, oC) :: news ++ dl ++ own))
    {Q : Flow → Shared → Prop} (kc : (∀ v e, DD ≠ .pair v e) → ∀ tk, Q .cont { s₁ with heap := h, toks := tk }) (kn : ∀ v e, DD = .pair v e → ∀ tk, Q .next { s₁ with heap := h, toks := tk }) :
    wpG (model PySem.Challenge.rw_ll0027_01.row.prog w) (callerA.deeper (envOfC (Str.ofString "law") lawS L fa cd)) (exec (tSt 3) (envOfC (Str.ofString "law") lawS L fa cd)) Q (fun _ _ => False) { s₁ with heap := h, toks := tk } := by
  conv in tSt 3 => whnf
  obtain ⟨X, T, B, hl, hi, hz⟩ := H
  refine wpG_of ?_
  cases hdd
  case pair D v e t1 t2 hm =>
    have z := N (D, tup [.int v t1, .int e t2]) (by simp [hm])
    have hD : KitAt D "tuple" h := ⟨_, z.1, rfl⟩
    k_steps
    exact kn v e rfl _
  all_goals k_steps
  all_goals exact kc (by intro v e h; cases h) _
end
end
section
open PySem.SeqAt
set_option linter.unusedVariables false
set_option linter.unusedSimpArgs false
theorem offE3 : True := by
  w_top off
  exact True.intro
local macro_rules | `(tactic| walk_at "exec While Compare cons nil") => `(tactic| refine' halt ?_)
local macro_rules | `(tactic| walk_at "exec While BoolOp cons nil") => `(tactic| refine' halt ?_)
theorem filledE3 (w : World) (_ : hd.heap_39 w.params = hd.heap_39 w.params) (_ : PySem.Challenge.rw_ll0027_01 = PySem.Challenge.rw_ll0027_01) : PySem.Challenge.rw_ll0027_01.row.prog = PySem.Challenge.rw_ll0027_01.row.prog ∧ hd.heap_39 w.params = hd.heap_39 w.params := by
  k_fill
  exact ⟨rfl, rfl⟩
section
variable {w : World} {s₁ : Shared} {mg mb : Str → Option Value} {mean : ExcName → Option Value} {l L fa : Addr} {cd : Value} {vs : List Value} {ns : List Int}
set_option maxHeartbeats 4000000 in
theorem tb4 (H : LawAt w s₁ mg mb mean l vs ns) {oC : Obj} {D : Addr} {v e : Int} {t1 t2 : Tok} (hoC : oC.data = .cell (some (.ref D))) {news : List (Addr × Obj)} {h : Heap} {tk : Nat} {m : Str → Option Value}
    (F : Fr s₁.heap L h m) (N : News s₁.heap L h ((L + 1, oC) :: (D, tup [.int v t1, .int e t2]) :: news))
    {Q : Flow → Shared → Prop} (kn : ∀ h' tk m' t t', Fr s₁.heap L h' m' → News s₁.heap L h' ((L + 1, oC) :: (D, tup [.int v t1, .int e t2]) :: news) → m' = (fun y => if y = Str.ofString "end" then some (.int e t) else if y = Str.ofString "value" then some (.int v t') else m y) → Q .next { s₁ with heap := h', toks := tk }) :
    wpG (model PySem.Challenge.rw_ll0027_01.row.prog w) (callerA.deeper (envOfC (Str.ofString "law") lawS L fa cd)) (exec (tSt 4) (envOfC (Str.ofString "law") lawS L fa cd)) Q (fun _ _ => False) { s₁ with heap := h, toks := tk } := by
  conv in tSt 4 => whnf
  obtain ⟨X, T, B, hl, hi, hz⟩ := H
  refine wpG_of ?_
  k_steps
  rename Fr _ _ _ _ => F8
  rename News _ _ _ _ => N8
  exact kn _ _ _ _ _ F8 N8 rfl
set_option maxHeartbeats 4000000 in
theorem tb5 (H : LawAt w s₁ mg mb mean l vs ns) {rA : Addr} {ws : List Value} {row : List Int} {k : Nat} {a e : Int} {t t' : Tok} {news : List (Addr × Obj)} {h : Heap} {tk : Nat} {m : Str → Option Value}
    (F : Fr s₁.heap L h m) (N : News s₁.heap L h ((rA, listOf (List.toArray ws) k) :: news)) (hiw : IntsAre ws row) (hrl : row.length ≤ 109) (ha0 : 0 ≤ a) (hae : a ≤ e) (he : e ≤ row.length)
    (hr : m (Str.ofString "row") = some (.ref rA)) (hat : m (Str.ofString "at") = some (.int a t)) (hen : m (Str.ofString "end") = some (.int e t'))
    {Q : Flow → Shared → Prop} (kn : ∀ h' tk m' sA ss k', IntsAre ss ((row.drop a.toNat).take (e - a).toNat) → (∀ p ∈ (rA, listOf (List.toArray ws) k) :: news, p.1 ≠ sA) → Fr s₁.heap L h' m' → News s₁.heap L h' ((sA, listOf (List.toArray ss) k') :: (rA, listOf (List.toArray ws) k) :: news) → m' = (fun y => if y = Str.ofString "short" then some (.ref sA) else m y) → Q .next { s₁ with heap := h', toks := tk }) :
    wpG (model PySem.Challenge.rw_ll0027_01.row.prog w) (callerA.deeper (envOfC (Str.ofString "law") lawS L fa cd)) (exec (tSt 5) (envOfC (Str.ofString "law") lawS L fa cd)) Q (fun _ _ => False) { s₁ with heap := h, toks := tk } := by
  conv in tSt 5 => whnf
  obtain ⟨X, T, B, hl, hi, hz⟩ := H
  refine wpG_of ?_
  k_steps
  rename Fr _ _ _ _ => F8
  rename News _ _ _ _ => N8
  rename IntsAre _ (List.take _ _) => hI8
  rename _ ∧ AllLt _ _ => hL8
  refine kn _ _ _ _ _ _ (eq_ints hI8 ?_) ?_ F8 N8 rfl
  · clear hI8 hL8 N8 F8
    first | rw [take_min, show e.toNat - a.toNat = (e - a).toNat by omega] | (rw [List.take_eq_take_iff, List.length_drop]; omega)
  · intro p hp
    rcases List.mem_cons.mp hp with rfl | hp
    · exact Nat.ne_of_lt hL8.1
    · exact allLt_mem hL8.2 p hp
noncomputable def strip : Nat → List Int → List Int
  | 0, l => l
  | n + 1, l => if 1 < l.length ∧ l.getD (-1 + (l.length : Int)).toNat 0 = 0 then strip n (l.take (l.length - 2) ++ [l.getD (-2 + (l.length : Int)).toNat 0 - 128]) else l
set_option maxHeartbeats 4000000 in
theorem tb6 (H : LawAt w s₁ mg mb mean l vs ns) {sA : Addr} {ss : List Value} {sh : List Int} {k : Nat} {news : List (Addr × Obj)} {h : Heap} {tk : Nat} {m : Str → Option Value}
    (F : Fr s₁.heap L h m) (N : News s₁.heap L h ((sA, listOf (List.toArray ss) k) :: news)) (his : IntsAre ss sh) (hsl : sh.length ≤ 10) (hso : ∀ n ∈ sh, -200 ≤ n ∧ n < 256)
    (hne : ∀ p ∈ news, p.1 ≠ sA) (hs : m (Str.ofString "short") = some (.ref sA))
    {Q : Flow → Shared → Prop} (kn : ∀ h' tk m' sA ss k', IntsAre ss (strip 10 sh) → (∀ p ∈ news, p.1 ≠ sA) → Fr s₁.heap L h' m' → News s₁.heap L h' ((sA, listOf (List.toArray ss) k') :: news) → m' (Str.ofString "short") = some (.ref sA) → (∀ x, x ≠ Str.ofString "short" → m' x = m x) → Q .next { s₁ with heap := h', toks := tk }) :
    wpG (model PySem.Challenge.rw_ll0027_01.row.prog w) (callerA.deeper (envOfC (Str.ofString "law") lawS L fa cd)) (exec (tSt 6) (envOfC (Str.ofString "law") lawS L fa cd)) Q (fun _ _ => False) { s₁ with heap := h, toks := tk } := by
  conv in tSt 6 => whnf
  obtain ⟨X, T, B, hl, hi, hz⟩ := H
  refine wpG_of (while_my (fun n s' => ∃ h' tk m' sA ss k' cur, s' = { s₁ with heap := h', toks := tk } ∧ Fr s₁.heap L h' m' ∧ News s₁.heap L h' ((sA, listOf (List.toArray ss) k') :: news) ∧ (∀ p ∈ news, p.1 ≠ sA) ∧ IntsAre ss cur ∧ cur.length ≤ n ∧ n ≤ 10 ∧ strip n cur = strip 10 sh ∧
    m' (Str.ofString "short") = some (.ref sA) ∧ (∀ x, x ≠ Str.ofString "short" → m' x = m x)) PassesOwn.never ?_ 10 ⟨h, tk, m, sA, ss, k, sh, rfl, F, N, hne, his, hsl, Nat.le_refl _, rfl, hs, fun _ _ => rfl⟩)
  rintro n s' ⟨h2, tk2, m2, sA2, ss2, k2, cur, rfl, F2, N2, hne2, hi2, hn, hn10, hst, hs2, hm2⟩
  clear F N
  have fin : ¬ (1 < cur.length ∧ cur.getD (-1 + (cur.length : Int)).toNat 0 = 0) → strip n cur = cur := fun hno => by
    cases n with
    | zero => rfl
    | succ j => rw [strip, if_neg hno]
  k_steps
  · rename Fr _ _ _ _ => F8
    rename News _ _ _ _ => N8
    rename IntsAre _ _ => hI8
    rename _ ∧ _ => hL8
    obtain ⟨j, rfl⟩ : ∃ j, n = j + 1 := ⟨n - 1, by omega⟩
    refine WEnd.mk ⟨j, by omega, _, _, _, _, _, 0, _, rfl, F8, news_sub N8 (fun p hp => ?_), ?_, hI8, ?_, by omega, ?_, rfl, ?_⟩
    · rcases List.mem_cons.mp hp with rfl | hp
      · exact .head _
      · exact .tail _ (.tail _ (.tail _ (.tail _ hp)))
    · exact fun p hp => allLt_mem hL8.2.2.2 p hp
    · simp only [List.length_append, List.length_take, List.length_cons, List.length_nil]; omega
    · rw [← hst, strip, if_pos ⟨by omega, by assumption⟩]
    · intro x hx
      exact (if_neg hx).trans (hm2 x hx)
  all_goals
    refine kn _ _ _ _ _ _ (eq_ints hi2 ?_) hne2 F2 N2 hs2 hm2
    rw [← hst, fin]
    rintro ⟨q1, q2⟩
    first | omega | exact absurd q2 (by assumption)
end
end
section
open PySem.SeqAt
set_option linter.unusedVariables false
set_option linter.unusedSimpArgs false
local macro_rules | `(tactic| walk_at "my pad") => `(tactic| skip)
theorem offE4 : True := by
  w_top off
  exact True.intro
local macro_rules | `(tactic| walk_at "call type:list") => `(tactic| refine' halt ?_)
local macro_rules | `(tactic| walk_at "eval Name") => `(tactic| walk_at "my nameB")
theorem filledE4 (w : World) (_ : hd.heap_39 w.params = hd.heap_39 w.params) (_ : PySem.Challenge.rw_ll0027_01 = PySem.Challenge.rw_ll0027_01) : PySem.Challenge.rw_ll0027_01.row.prog = PySem.Challenge.rw_ll0027_01.row.prog ∧ hd.heap_39 w.params = hd.heap_39 w.params := by
  k_fill
  exact ⟨rfl, rfl⟩
section
variable {w : World} {s₁ : Shared} {mg mb : Str → Option Value} {mean : ExcName → Option Value} {l L fa : Addr} {cd : Value} {vs : List Value} {ns : List Int}
set_option maxHeartbeats 4000000 in
theorem tb7 (H : LawAt w s₁ mg mb mean l vs ns) {news : List (Addr × Obj)} {h : Heap} {tk : Nat} {m : Str → Option Value} (F : Fr s₁.heap L h m) (N : News s₁.heap L h news)
    {Q : Flow → Shared → Prop} (kn : ∀ h' tk m' bA, (∀ p ∈ news, p.1 ≠ bA) → Fr s₁.heap L h' m' → News s₁.heap L h' ((bA, baObj #[]) :: news) → m' = (fun y => if y = Str.ofString "laid" then some (.ref bA) else m y) → Q .next { s₁ with heap := h', toks := tk }) :
    wpG (model PySem.Challenge.rw_ll0027_01.row.prog w) (callerA.deeper (envOfC (Str.ofString "law") lawS L fa cd)) (exec (tSt 7) (envOfC (Str.ofString "law") lawS L fa cd)) Q (fun _ _ => False) { s₁ with heap := h, toks := tk } := by
  conv in tSt 7 => whnf
  obtain ⟨X, T, B, hl, hi, hz⟩ := H
  refine assignG (callG ?_)
  k_steps
  refine callWithG0 kept_type ?_
  show wpG _ _ (call _ []) _ _ _
  refine ba_call #[] (.inl ⟨rfl, rfl⟩) fun h3 tk3 hb3 hk3 => ?_
  have F3 := fr_ext F hk3
  have N3 := news_new F N hb3 hk3
  have hne : ∀ p ∈ news, p.1 ≠ h.objs.size := fun p hp => Nat.ne_of_lt (Heap.lt_size (N p hp).1)
  clear F N
  k_steps
  rename Fr _ _ _ _ => F8
  rename News _ _ _ _ => N8
  exact kn _ _ _ _ hne F8 N8 rfl
set_option maxHeartbeats 4000000 in
theorem tb8 (H : LawAt w s₁ mg mb mean l vs ns) {bA : Addr} {news : List (Addr × Obj)} {h : Heap} {tk : Nat} {m : Str → Option Value} (F : Fr s₁.heap L h m) (N : News s₁.heap L h ((bA, baObj #[]) :: news)) (hne : ∀ p ∈ news, p.1 ≠ bA)
    {v : Int} {t : Tok} (h1 : -(2 ^ 63) ≤ v) (h2 : v < 2 ^ 63) {z : Nat} (hzz : (z : Int) = if 0 ≤ v then 2 * v else -2 * v - 1) (hv : m (Str.ofString "value") = some (.int v t)) (hla : m (Str.ofString "laid") = some (.ref bA))
    {Q : Flow → Shared → Prop} (kn : ∀ h' tk m' b' n t', octs b' = toI (encNat z) → ((encNat z).length ≤ 5 → n = ((encNat z).length : Int)) → Fr s₁.heap L h' m' → News s₁.heap L h' ((bA, baObj b') :: news) → m' = (fun y => if y = Str.ofString "count" then some (.int n t') else m y) → Q .next { s₁ with heap := h', toks := tk }) :
    wpG (model PySem.Challenge.rw_ll0027_01.row.prog w) (callerA.deeper (envOfC (Str.ofString "law") lawS L fa cd)) (exec (tSt 8) (envOfC (Str.ofString "law") lawS L fa cd)) Q (fun _ _ => False) { s₁ with heap := h, toks := tk } := by
  conv in tSt 8 => whnf
  have C := LawAt.cx (L := L) (fa := fa) (cd := cd) H
  obtain ⟨X, T, B, hl, hi, hz⟩ := H
  refine assignG (callG ?_)
  k_steps
  refine callWithG (argsG_cons (wpG_of ?_))
  k_steps
  refine argsG_cons (wpG_of ?_)
  k_steps
  rename Fr _ _ _ _ => F2
  rename News _ _ _ _ => N2
  refine ap_attr (N2 _ (.head _)).1 ?_
  have hk3 : ∀ x o, h.get? x = some o → (h.push (apObj bA)).get? x = some o := fun x o e => Heap.get?_push_of_some _ e
  have F3 := fr_ext F2 hk3
  have N3 := news_new F2 N2 (Heap.get?_push_size _ rfl) hk3
  have N4 : News s₁.heap L (h.push (apObj bA)) ((bA, baObj #[]) :: (h.objs.size, apObj bA) :: news) := news_sub N3 fun p hp => by
    rcases List.mem_cons.mp hp with rfl | hp
    · exact .tail _ (.head _)
    · rcases List.mem_cons.mp hp with rfl | hp
      · exact .head _
      · exact .tail _ (.tail _ hp)
  have hne2 : ∀ p ∈ (h.objs.size, apObj bA) :: news, p.1 ≠ bA := fun p hp => by
    rcases List.mem_cons.mp hp with rfl | hp
    · exact Ne.symm (Nat.ne_of_lt (Heap.lt_size (N2 _ (.head _)).1))
    · exact hne p hp
  refine argsG_nil ⟨kept_K F3 X (fn44 w), ?_⟩
  refine enc_c C F3 (Nat.le_of_ble_eq_true rfl) N4 hne2 (.head _) (by simp) h1 h2 hzz fun h5 tk5 t5 n5 b5 hb5 hn5 F5 N5 => ?_
  have N6 : News s₁.heap L h5 ((bA, baObj b5) :: news) := news_sub N5 fun p hp => by
    rcases List.mem_cons.mp hp with rfl | hp
    · exact .head _
    · exact .tail _ (.tail _ hp)
  clear F2 N2 F3 N3 N4 N5
  k_steps
  rename Fr _ _ _ _ => F8
  rename News _ _ _ _ => N8
  exact kn _ _ _ _ _ _ (by rw [hb5]; rfl) hn5 F8 N8 rfl
set_option maxHeartbeats 4000000 in
theorem tb9 (H : LawAt w s₁ mg mb mean l vs ns) {bA sA : Addr} {b' : Array UInt8} {ss : List Value} {k : Nat} {news : List (Addr × Obj)} {h : Heap} {tk : Nat} {m : Str → Option Value} (F : Fr s₁.heap L h m)
    (N : News s₁.heap L h ((bA, baObj b') :: (sA, listOf (List.toArray ss) k) :: news)) {z : Nat} (hb : octs b' = toI (encNat z)) (his : IntsAre ss (toI (encNat z))) (hl10 : (encNat z).length ≤ 10)
    {v : Int} {t : Tok} (h1 : -(2 ^ 63) ≤ v) (h2 : v < 2 ^ 63) (hsz : szZ (zz v) = ((encNat z).length : Int)) (hv : m (Str.ofString "value") = some (.int v t)) (hla : m (Str.ofString "laid") = some (.ref bA)) (hsh : m (Str.ofString "short") = some (.ref sA))
    {Q : Flow → Shared → Prop} (kn : ∀ h' tk, Fr s₁.heap L h' m → News s₁.heap L h' ((bA, baObj b') :: (sA, listOf (List.toArray ss) k) :: news) → Q .next { s₁ with heap := h', toks := tk }) :
    wpG (model PySem.Challenge.rw_ll0027_01.row.prog w) (callerA.deeper (envOfC (Str.ofString "law") lawS L fa cd)) (exec (tSt 9) (envOfC (Str.ofString "law") lawS L fa cd)) Q (fun _ _ => False) { s₁ with heap := h, toks := tk } := by
  conv in tSt 9 => whnf
  have C := LawAt.cx (L := L) (fa := fa) (cd := cd) H
  obtain ⟨X, T, B, hl, hi, hz⟩ := H
  have hbs : b'.size ≤ 10 := by have := octs_len b'; rw [hb] at this; simp only [toI, List.length_map] at this; omega
  refine wpG_of ?_
  k_steps
  rename Fr _ _ _ _ => F2
  rename News _ _ _ _ => N2
  refine ⟨list_ba rfl (N2 _ (.head _)).1 (Nat.le_trans hbs (by decide)) fun h3 tk3 acc c3 hk3 ho3 hi3 => ?_⟩
  have F3 := fr_ext F2 hk3
  have N3 : News s₁.heap L h3 ((_, listOf (List.toArray acc.toList) c3) :: _) := news_new F2 N2 ho3 hk3
  rw [hb] at hi3
  have hlen : (toI (encNat z)).length ≤ 10 := by simp only [toI, List.length_map]; exact hl10
  clear F2 N2
  generalize hg : toI (encNat z) = gz at *
  k_steps
  rename Fr _ _ _ _ => F5
  rename News _ _ _ _ => N5
  refine ⟨size_c C F5 N5 (Nat.le_of_ble_eq_true rfl) h1 h2 fun h6 tk6 t6 n6 e6 F6 N6 => ?_⟩
  rw [hsz] at e6
  have hlz : (gz.length : Int) = ((encNat z).length : Int) := by rw [← hg]; simp [toI]
  clear F5 N5
  k_steps
  · exact absurd (e6.trans hlz.symm) (by assumption)
  · exact kn _ _ F6 (news_sub N6 fun p hp => .tail _ hp)
set_option maxHeartbeats 4000000 in
theorem tb10 (H : LawAt w s₁ mg mb mean l vs ns) {sA : Addr} {ss : List Value} {k : Nat} {news : List (Addr × Obj)} {h : Heap} {tk : Nat} {m : Str → Option Value} (F : Fr s₁.heap L h m)
    (N : News s₁.heap L h ((sA, listOf (List.toArray ss) k) :: news)) {gz : List Int} (his : IntsAre ss gz) (hl10 : gz.length ≤ 10) {n : Int} {t : Tok} (hn : gz.length ≤ 5 → n = (gz.length : Int)) (hco : m (Str.ofString "count") = some (.int n t)) (hsh : m (Str.ofString "short") = some (.ref sA))
    {Q : Flow → Shared → Prop} (kn : ∀ h' tk, Fr s₁.heap L h' m → News s₁.heap L h' ((sA, listOf (List.toArray ss) k) :: news) → Q .next { s₁ with heap := h', toks := tk }) :
    wpG (model PySem.Challenge.rw_ll0027_01.row.prog w) (callerA.deeper (envOfC (Str.ofString "law") lawS L fa cd)) (exec (tSt 10) (envOfC (Str.ofString "law") lawS L fa cd)) Q (fun _ _ => False) { s₁ with heap := h, toks := tk } := by
  conv in tSt 10 => whnf
  obtain ⟨X, T, B, hl, hi, hz⟩ := H
  refine wpG_of ?_
  k_steps
  · exact absurd (hn (by omega)) (by assumption)
  · exact kn _ _ F N
  · exact kn _ _ F N
set_option maxHeartbeats 4000000 in
theorem tb11 (H : LawAt w s₁ mg mb mean l vs ns) {tA : Addr} {tvs : List Value} {ts : List Int} {k : Nat} {news : List (Addr × Obj)} {h : Heap} {tk : Nat} {m : Str → Option Value} (F : Fr s₁.heap L h m)
    (N : News s₁.heap L h ((tA, listOf (List.toArray tvs) k) :: news)) (hne : ∀ p ∈ news, p.1 ≠ tA) (hit : IntsAre tvs ts) (htl : ts.length ≤ 100) {v : Int} {t : Tok} (hv : m (Str.ofString "value") = some (.int v t)) (hto : m (Str.ofString "told") = some (.ref tA))
    {Q : Flow → Shared → Prop} (kn : ∀ h' tk tvs' k', IntsAre tvs' (ts ++ [v]) → Fr s₁.heap L h' m → News s₁.heap L h' ((tA, listOf (List.toArray tvs') k') :: news) → Q .next { s₁ with heap := h', toks := tk }) :
    wpG (model PySem.Challenge.rw_ll0027_01.row.prog w) (callerA.deeper (envOfC (Str.ofString "law") lawS L fa cd)) (exec (tSt 11) (envOfC (Str.ofString "law") lawS L fa cd)) Q (fun _ _ => False) { s₁ with heap := h, toks := tk } := by
  conv in tSt 11 => whnf
  obtain ⟨X, T, B, hl, hi, hz⟩ := H
  refine wpG_of ?_
  k_steps
  rename Fr _ _ _ _ => F5
  rename News _ _ _ _ => N5
  refine append_K F5 N5 (.head hne) (fun h6 F6 N6 => ?_) (by rw [List.size_toArray, ← ints_len hit]; exact Nat.le_trans htl (by decide))
  rw [show tvs.toArray.push (Value.int v t) = (tvs ++ [Value.int v t]).toArray by simp] at N6
  clear F5 N5
  k_steps
  exact kn _ _ _ _ (snoc_ints hit) F6 N6
end
end
section
open PySem.SeqAt
set_option linter.unusedVariables false
set_option linter.unusedSimpArgs false
/-- what the numbers' maths must say -/
structure MathDue (row : List Int) (a : Int) : Prop where
  same : dueD (dig (win row a)) a ≠ .aside → toDue (decS row a) = dueD (dig (win row a)) a
  pair : ∀ v e, dueD (dig (win row a)) a = .pair v e → -(2 ^ 63) ≤ v ∧ v < 2 ^ 63 ∧ a ≤ e ∧ e ≤ row.length ∧ (e - a).toNat ≤ 10 ∧
    ∃ z : Nat, (z : Int) = (if 0 ≤ v then 2 * v else -2 * v - 1) ∧ strip 10 ((row.drop a.toNat).take (e - a).toNat) = toI (encNat z) ∧ szZ (zz v) = ((encNat z).length : Int) ∧ (encNat z).length ≤ 10
noncomputable def small (v : Int) : Prop := -(2 ^ 63) ≤ v ∧ v < 2 ^ 63
/-- the end of a turn -/
structure TEnd (s₁ : Shared) (l L rA tA : Addr) (f0 : Int) (ws : List Value) (k : Nat) (own : List (Addr × Obj)) (ts : List Int) (f : Flow) (s : Shared) : Prop where
  fl : f = .next ∨ f = .cont
  go : ∃ h tk m oC v tvs k' ts', s = { s₁ with heap := h, toks := tk } ∧ Fr s₁.heap L h m ∧ oC.data = .cell v ∧ News s₁.heap L h ((L + 1, oC) :: (tA, listOf (List.toArray tvs) k') :: (rA, listOf (List.toArray ws) k) :: own) ∧ LB l rA tA f0 m ∧ IntsAre tvs ts' ∧ (ts' = ts ∨ ∃ v, small v ∧ ts' = ts ++ [v])
section
variable {w : World} {s₁ : Shared} {mg mb : Str → Option Value} {mean : ExcName → Option Value} {l L fa : Addr} {cd : Value} {vs : List Value} {ns : List Int}
set_option maxHeartbeats 4000000 in
theorem turn6 (H : LawAt w s₁ mg mb mean l vs ns) {s : Shared} {tA rA : Addr} {own : List (Addr × Obj)} {ws tvs : List Value} {row ts : List Int} (TC : TurnC L (L + 1) tA rA own ws tvs row ts) (htl : ts.length ≤ 50) {k k' : Nat} {a : Int} (ha0 : 0 ≤ a) (ha1 : a ≤ row.length) (HM : MathDue row a) {f0 : Int}
    (hP : At s₁ L (fun m news => ∃ oC v t, oC.data = .cell v ∧ news = (tA, listOf (List.toArray tvs) k') :: (rA, listOf (List.toArray ws) k) :: (L + 1, oC) :: own ∧ LB l rA tA f0 m ∧ m (Str.ofString "at") = some (.int a t)) s) :
    wpG (model PySem.Challenge.rw_ll0027_01.row.prog w) (callerA.deeper (envOfC (Str.ofString "law") lawS L fa cd)) (execs loopB (envOfC (Str.ofString "law") lawS L fa cd)) (TEnd s₁ l L rA tA f0 ws k own ts) (fun _ _ => False) s := by
  show wpG _ _ (execs (tSt 0 :: tSt 1 :: tSt 2 :: tSt 3 :: tSt 4 :: tSt 5 :: tSt 6 :: tSt 7 :: tSt 8 :: tSt 9 :: tSt 10 :: tSt 11 :: []) _) _ _ _
  refine execsG_cut _ (tb0 H TC ha0 ha1 hP) ?_
  rintro s' ⟨h, tk, m, news, rfl, F, N, oC, dv, t, dl, hoC, hdl, hdd, rfl, hb, hat⟩
  have N1 : News s₁.heap L h ((L + 1, oC) :: [(tA, listOf (List.toArray tvs) k'), (rA, listOf (List.toArray ws) k)] ++ dl ++ own) := by simpa using N
  have sub : ∀ p ∈ (L + 1, oC) :: (tA, listOf (List.toArray tvs) k') :: (rA, listOf (List.toArray ws) k) :: own, p ∈ (L + 1, oC) :: [(tA, listOf (List.toArray tvs) k'), (rA, listOf (List.toArray ws) k)] ++ dl ++ own := fun p hp => by
    simp only [List.mem_cons, List.mem_append, List.not_mem_nil, or_false] at hp ⊢
    rcases hp with h | h | h | h <;> simp [h]
  have done : ∀ h tk, Fr s₁.heap L h m → News s₁.heap L h ((L + 1, oC) :: [(tA, listOf (List.toArray tvs) k'), (rA, listOf (List.toArray ws) k)] ++ dl ++ own) → TEnd s₁ l L rA tA f0 ws k own ts .cont { s₁ with heap := h, toks := tk } := fun h tk F N =>
    ⟨.inr rfl, h, tk, m, oC, _, tvs, k', ts, rfl, F, hoC, news_sub N sub, hb, TC.it, .inl rfl⟩
  refine execsG_cons (tb1 H hoC hdd F N1 (s := { s₁ with heap := h }) (tA := tA) (rA := rA) (fun _ tk => done _ _ F N1) fun hna tk => ?_)
  dsimp only
  refine execsG_cons (tb2 H (tA := tA) hoC hdd F N1 (.tail _ (.head _)) TC.iw TC.ro TC.rl ha0 ha1 hb.ro hat (HM.same hna) fun h2 tk2 F2 N2 => ?_)
  dsimp only
  refine execsG_cons (tb3 H hoC hdd F2 N2 (fun _ tk => done _ _ F2 N2) fun v e hve tk3 => ?_)
  dsimp only
  obtain ⟨hv1, hv2, hae, hel, he10, z, hzz, hstr, hsz, hzl⟩ := HM.pair v e hve
  rw [hve] at hdd
  obtain ⟨D, t1, t2, rfl, hm⟩ : ∃ D t1 t2, dv = .ref D ∧ (D, tup [.int v t1, .int e t2]) ∈ dl := by
    cases hdd with
    | pair hm => exact ⟨_, _, _, rfl, hm⟩
  obtain ⟨hsc, ⟨tf, hfi⟩, hro, hto⟩ := hb
  have N3 : News s₁.heap L h2 ((L + 1, oC) :: (D, tup [.int v t1, .int e t2]) :: (rA, listOf (List.toArray ws) k) :: (tA, listOf (List.toArray tvs) k') :: own) := news_sub N2 fun p hp => by
    rcases List.mem_cons.mp hp with h | hp
    · simp [h]
    rcases List.mem_cons.mp hp with h | hp
    · rw [h]; simp [hm]
    rcases List.mem_cons.mp hp with h | hp
    · simp [h]
    rcases List.mem_cons.mp hp with h | hp
    · simp [h]
    simp [hp]
  refine execsG_cons (tb4 H hoC F2 N3 fun h4 tk4 m4 t4 t4' F4 N4 e4 => ?_)
  dsimp only
  subst e4
  have N4' : News s₁.heap L h4 ((rA, listOf (List.toArray ws) k) :: (L + 1, oC) :: (tA, listOf (List.toArray tvs) k') :: own) := news_sub N4 fun p hp => by
    simp only [List.mem_cons] at hp ⊢
    rcases hp with h | h | h | h <;> simp [h]
  refine execsG_cons (tb5 H F4 N4' TC.iw TC.rl ha0 hae hel hro hat rfl fun h5 tk5 m5 sA ss k5 his hnes F5 N5 e5 => ?_)
  dsimp only
  subst e5
  refine execsG_cons (tb6 H F5 N5 his ?_ ?_ hnes rfl fun h6 tk6 m6 sA6 ss6 k6 his6 hne6 F6 N6 hs6 hm6 => ?_)
  · rw [List.length_take]; omega
  · intro n hn
    have := TC.ro n (List.mem_of_mem_drop (List.mem_of_mem_take hn))
    omega
  dsimp only
  rw [hstr] at his6
  have hro6 := (hm6 (Str.ofString "row") (by decide)).trans hro
  have hsc6 := (hm6 (Str.ofString "script") (by decide)).trans hsc
  have hfi6 := (hm6 (Str.ofString "first") (by decide)).trans hfi
  have hto6 := (hm6 (Str.ofString "told") (by decide)).trans hto
  have hva6 : m6 (Str.ofString "value") = some (.int v t4') := hm6 (Str.ofString "value") (by decide)
  refine execsG_cons (tb7 H F6 N6 fun h7 tk7 m7 bA hne7 F7 N7 e7 => ?_)
  dsimp only
  subst e7
  refine execsG_cons (tb8 H F7 N7 hne7 hv1 hv2 hzz hva6 rfl fun h8 tk8 m8 b8 n8 t8 hb8 hn8 F8 N8 e8 => ?_)
  dsimp only
  subst e8
  refine execsG_cons (tb9 H F8 N8 hb8 his6 hzl hv1 hv2 hsz hva6 rfl hs6 fun h9 tk9 F9 N9 => ?_)
  dsimp only
  have N9' := news_sub N9 (fun p hp => List.Mem.tail _ hp)
  refine execsG_cons (tb10 H F9 N9' his6 (by simp only [toI, List.length_map]; exact hzl) (by simp only [toI, List.length_map]; exact hn8) rfl hs6 fun h10 tk10 F10 N10 => ?_)
  dsimp only
  have N10' : News s₁.heap L h10 ((tA, listOf (List.toArray tvs) k') :: (rA, listOf (List.toArray ws) k) :: (L + 1, oC) :: own) := news_sub N10 fun p hp => by
    simp only [List.mem_cons] at hp ⊢
    rcases hp with h | h | h | h <;> simp [h]
  refine execsG_cons (tb11 H F10 N10' ?_ TC.it (by omega) hva6 hto6 fun h11 tk11 tvs' k11 hit F11 N11 => ?_)
  · intro p hp
    rcases List.mem_cons.mp hp with rfl | hp
    · exact TC.tr.symm
    rcases List.mem_cons.mp hp with rfl | hp
    · exact TC.ct
    · exact TC.ot p hp
  dsimp only
  refine execsG_nil ⟨.inl rfl, h11, tk11, _, oC, _, tvs', k11, ts ++ [v], rfl, F11, hoC, news_sub N11 (fun p hp => ?_), ⟨hsc6, ⟨tf, hfi6⟩, hro6, hto6⟩, hit, .inr ⟨v, ⟨hv1, hv2⟩, rfl⟩⟩
  simp only [List.mem_cons] at hp ⊢
  rcases hp with h | h | h | h <;> simp [h]
end
end
section
open PySem.SeqAt
set_option linter.unusedVariables false
set_option linter.unusedSimpArgs false
theorem offE6 : True := by
  w_top off
  exact True.intro
local macro_rules | `(tactic| walk_at "pyIter ref") => `(tactic| refine' halt ?_)
theorem filledE6 (w : World) (_ : hd.heap_39 w.params = hd.heap_39 w.params) (_ : PySem.Challenge.rw_ll0027_01 = PySem.Challenge.rw_ll0027_01) : PySem.Challenge.rw_ll0027_01.row.prog = PySem.Challenge.rw_ll0027_01.row.prog ∧ hd.heap_39 w.params = hd.heap_39 w.params := by
  k_fill
  exact ⟨rfl, rfl⟩
theorem turn_ofT {s₁ s₂ : Shared} {l L rA tA c : Addr} {f0 : Int} {ws : List Value} {k : Nat} {own : List (Addr × Obj)} {ts : List Int} {f : Flow} {s : Shared} {J : (Str → Option Value) → List (Addr × Obj) → Prop} {Q : Flow → Shared → Prop} {h : Heap} {tk : Nat}
    (e : s₂ = { s₁ with heap := h, toks := tk }) (T : TEnd s₁ l L rA tA f0 ws k own ts f s) (hc1 : @LT.lt Nat _ (L + 1) c) (hc2 : @LT.lt Nat _ tA c) (hc3 : @LT.lt Nat _ rA c)
    (hJ : ∀ m oC v tvs k' ts', oC.data = .cell v → LB l rA tA f0 m → IntsAre tvs ts' → (ts' = ts ∨ ∃ v, small v ∧ ts' = ts ++ [v]) → J m [(L + 1, oC), (tA, listOf (List.toArray tvs) k'), (rA, listOf (List.toArray ws) k)]) : Turn c s₁.heap L own J s₂ Q f s := by
  obtain ⟨hf, h', tk', m, oC, v, tvs, k', ts', rfl, F, hoC, N, hb, hit, hts⟩ := T
  subst e
  have N' : News s₁.heap L h' (own ++ [(L + 1, oC), (tA, listOf (List.toArray tvs) k'), (rA, listOf (List.toArray ws) k)]) := news_sub N fun p hp => by
    rcases List.mem_append.mp hp with hp | hp
    · simp [hp]
    · simp only [List.mem_cons, List.not_mem_nil, or_false] at hp ⊢
      rcases hp with h | h | h <;> simp [h]
  have hn : NoIter c [(L + 1, oC), (tA, listOf (List.toArray tvs) k'), (rA, listOf (List.toArray ws) k)] := fun p hp => by
    simp only [List.mem_cons, List.not_mem_nil, or_false] at hp
    rcases hp with rfl | rfl | rfl
    · exact .inr hc1
    · exact .inr hc2
    · exact .inr hc3
  have go := hJ m oC v tvs k' ts' hoC hb hit hts
  rcases hf with rfl | rfl
  · exact ⟨h', tk', m, _, rfl, F, N', hn, go⟩
  · exact ⟨h', tk', m, _, rfl, F, N', hn, go⟩
theorem theRow_range {ns : List Int} : ∀ n ∈ theRow ns, 0 ≤ n ∧ n < 256 := by
  have h1 : ∀ (r : List Int), ∀ n ∈ rowOf r, 0 ≤ n ∧ n < 256 := by
    intro r
    induction r with
    | nil => intro n hn; cases hn
    | cons a r ih =>
      intro n hn
      rcases List.mem_append.mp hn with h | h
      · unfold rowOne at h
        have e1 := Int.fmod_nonneg_of_pos a (show (0 : Int) < 128 by decide)
        have e2 := Int.fmod_lt_of_pos a (show (0 : Int) < 128 by decide)
        have e3 := Int.fmod_nonneg_of_pos (a.fdiv 2304) (show (0 : Int) < 256 by decide)
        have e4 := Int.fmod_lt_of_pos (a.fdiv 2304) (show (0 : Int) < 256 by decide)
        rcases List.mem_append.mp h with h | h
        · rcases List.mem_append.mp h with h | h
          · rw [List.eq_of_mem_replicate h]; omega
          · rw [List.eq_of_mem_replicate h]; omega
        · rw [List.mem_singleton.mp h]; omega
      · exact ih n h
  intro n hn
  rcases List.mem_append.mp hn with h | h
  · exact h1 _ n h
  · have : ∀ n ∈ tailRow, 0 ≤ n ∧ n < 256 := by decide
    exact this n h
section
variable {w : World} {s₁ : Shared} {mg mb : Str → Option Value} {mean : ExcName → Option Value} {l L fa : Addr} {cd : Value} {vs : List Value} {ns : List Int}
set_option maxHeartbeats 4000000 in
theorem st6 (H : LawAt w s₁ mg mb mean l vs ns) (HM : ∀ a : Int, 0 ≤ a → a ≤ (theRow ns).length → MathDue (theRow ns) a) {s : Shared} {oC : Obj} {v₀ : Option Value} (hoC : oC.data = .cell v₀)
    (hP : At s₁ L (fun m news => ∃ tA rA ws k k' bg, tA ≠ rA ∧ 0 ≤ bg ∧ bg < ((theRow ns).length : Int) ∧ news = [(tA, listOf #[] k'), (rA, listOf (List.toArray ws) k), (L + 1, oC)] ∧ IntsAre ws (theRow ns) ∧ m (Str.ofString "script") = some (.ref l) ∧ (∃ t, m (Str.ofString "first") = some (.int (ns.headD 0) t)) ∧ m (Str.ofString "row") = some (.ref rA) ∧
        (∃ t, m (Str.ofString "begin") = some (.int bg t)) ∧ m (Str.ofString "told") = some (.ref tA)) s) :
    wpG (model PySem.Challenge.rw_ll0027_01.row.prog w) (callerA.deeper (envOfC (Str.ofString "law") lawS L fa cd)) (exec (lawSt 6) (envOfC (Str.ofString "law") lawS L fa cd))
      (Nxt (At s₁ L (fun m news => ∃ tA oC v tvs ts k', news = [(L + 1, oC), (tA, listOf (List.toArray tvs) k')] ∧ oC.data = .cell v ∧ IntsAre tvs ts ∧ (∀ v ∈ ts, small v) ∧ ts.length ≤ 8 ∧ m (Str.ofString "script") = some (.ref l) ∧ (∃ t, m (Str.ofString "first") = some (.int (ns.headD 0) t)) ∧ m (Str.ofString "told") = some (.ref tA)))) (fun _ _ => False) s := by
  conv in lawSt 6 => whnf
  refine wpG_gen fun QQ EE hQQ _ => ?_
  obtain ⟨h, tk, m, news, rfl, F, N, ⟨tA, rA, ws, k, k', bg, htr, b1, b2, rfl, hws, hm, ⟨t, hf⟩, hr, ⟨tb, hb⟩, hto⟩⟩ := hP
  have H' := H
  obtain ⟨X, T, B, hl, hi, hz⟩ := H
  obtain ⟨hr1, hr2⟩ := theRow_len ns
  have hro := theRow_range (ns := ns)
  have hct : L + 1 ≠ tA := news_ne N (a := L + 1) (b := tA) (.tail _ (.tail _ (.head _))) (.head _) fun q => by rw [q] at hoC; cases hoC
  have hcr : L + 1 ≠ rA := news_ne N (a := L + 1) (b := rA) (.tail _ (.tail _ (.head _))) (.tail _ (.head _)) fun q => by rw [q] at hoC; cases hoC
  refine for_myG s₁.heap ?_ rfl rfl
  k_steps
  rename IsRange _ _ _ _ _ _ _ _ => hR5
  rename Fr _ _ _ _ => F5
  rename News _ _ _ _ => N5
  have k1 := Heap.lt_size (N5 _ (.head _)).1
  have k2 := Heap.lt_size (N5 _ (.tail _ (.head _))).1
  have k3 := Heap.lt_size (N5 _ (.tail _ (.tail _ (.head _)))).1
  refine ⟨src_range rfl F5 N5 hR5 (by omega) (by omega) (by split <;> omega) (by split <;> omega) fun I fp wr St h2 S st F3 N3 ni hfp => ⟨_, I, fp, wr, _, _, St, _, _,
    fun i m news => ∃ oC v tvs k' ts, news = [(L + 1, oC), (tA, listOf (List.toArray tvs) k'), (rA, listOf (List.toArray ws) k)] ∧ oC.data = .cell v ∧ IntsAre tvs ts ∧ (∀ v ∈ ts, small v) ∧ ts.length ≤ i ∧ LB l rA tA (ns.headD 0) m,
    rfl, S, st, F3, (news_sub N3 ?_ : News _ _ _ [(L + 1, oC), (tA, listOf (List.toArray []) k'), (rA, listOf (List.toArray ws) k)]), ?_, ?_, ?_, ?_⟩⟩
  · intro p hp
    simp only [List.mem_cons, List.not_mem_nil, or_false] at hp ⊢
    rcases hp with h | h | h <;> simp [h]
  · intro p hp
    simp only [List.mem_cons, List.not_mem_nil, or_false] at hp
    rcases hp with rfl | rfl | rfl
    · exact .inr k3
    · exact .inr k1
    · exact .inr k2
  · exact ⟨oC, v₀, [], k', [], rfl, hoC, .nil, fun _ h => (nomatch h), Nat.le_refl _, ⟨hm, ⟨_, hf⟩, hr, hto⟩⟩
  · intro i v m₁ news₁ h₁ tk own hi1 hP hJ hn1 F4 N4 hown
    obtain ⟨oC2, v2, tvs, kk, ts, rfl, hoC2, hit, hsm, htl, hb⟩ := hJ
    obtain ⟨ti, rfl⟩ := hP
    have hi8 : i < 8 := by
      have : (i : Int) < 8 := by split at hi1 <;> omega
      omega
    have ha1 : bg + (i : Int) ≤ ((theRow ns).length : Int) := by split at hi1 <;> omega
    have N6 : News s₁.heap L h₁ ((tA, listOf (List.toArray tvs) kk) :: (rA, listOf (List.toArray ws) k) :: (L + 1, oC2) :: own) := news_sub N4 fun p hp => by
      simp only [List.mem_cons, List.mem_append, List.not_mem_nil, or_false] at hp ⊢
      rcases hp with h | h | h | h <;> simp [h]
    have TC : TurnC L (L + 1) tA rA own ws tvs (theRow ns) ts := ⟨rfl, hct, hcr, htr, fun p hp => Ne.symm (Nat.ne_of_lt (Nat.lt_of_lt_of_le k3 (hfp _ (hown p hp)))), fun p hp => Ne.symm (Nat.ne_of_lt (Nat.lt_of_lt_of_le k1 (hfp _ (hown p hp)))), hws, hit, hro, hr2⟩
    have hgo := turn6 (fa := fa) (cd := cd) H' TC (by omega) (by omega) ha1 (HM _ (by omega) ha1) (f0 := ns.headD 0) (k := k) (k' := kk) (s := { s₁ with heap := h₁, toks := tk }) ⟨h₁, tk, _, _, rfl, F4, N6, oC2, v2, ti, hoC2, rfl, ⟨hb.sc, hb.fi, hb.ro, hb.to⟩, rfl⟩
    refine wpG_mono hgo (fun f s' T => turn_ofT rfl T k3 k1 k2 fun m oC3 v3 tvs3 k3 ts3 ho3 hb3 hi3 ht3 => ?_) fun _ _ e => e
    refine ⟨oC3, v3, tvs3, k3, ts3, rfl, ho3, hi3, ?_, ?_, hb3⟩
    · rcases ht3 with rfl | ⟨v, hv, rfl⟩
      · exact hsm
      · intro x hx
        rcases List.mem_append.mp hx with hx | hx
        · exact hsm x hx
        · rw [List.mem_singleton.mp hx]; exact hv
    · rcases ht3 with rfl | ⟨v, hv, rfl⟩
      · omega
      · rw [List.length_append]; simp only [List.length_cons, List.length_nil]; omega
  · intro h2 tk m₁ news₁ F4 N4 ni hJ
    obtain ⟨oC2, v2, tvs, kk, ts, rfl, hoC2, hit, hsm, htl, hb⟩ := hJ
    refine hQQ _ _ ⟨rfl, At.mk F4 (news_sub N4 (fun p hp => ?_)) ⟨tA, oC2, v2, tvs, ts, kk, rfl, hoC2, hit, hsm, ?_, hb.sc, hb.fi, hb.to⟩⟩
    · simp only [List.mem_cons, List.not_mem_nil, or_false] at hp ⊢
      rcases hp with h | h <;> simp [h]
    · split at htl <;> omega
end
end
section
open PySem.SeqAt
set_option linter.unusedVariables false
set_option linter.unusedSimpArgs false
theorem offE7 : True := by
  w_top off
  exact True.intro
local macro_rules | `(tactic| walk_at "pyIter ref") => `(tactic| refine' halt ?_)
local macro_rules | `(tactic| walk_at "eval Name") => `(tactic| walk_at "my nameB")
theorem filledE7 (w : World) (_ : hd.heap_39 w.params = hd.heap_39 w.params) (_ : PySem.Challenge.rw_ll0027_01 = PySem.Challenge.rw_ll0027_01) : PySem.Challenge.rw_ll0027_01.row.prog = PySem.Challenge.rw_ll0027_01.row.prog ∧ hd.heap_39 w.params = hd.heap_39 w.params := by
  k_fill
  exact ⟨rfl, rfl⟩
noncomputable def zOf (v : Int) : Nat := (if 0 ≤ v then 2 * v else -2 * v - 1).toNat
theorem zOf_eq (v : Int) : ((zOf v : Nat) : Int) = if 0 ≤ v then 2 * v else -2 * v - 1 := by unfold zOf; split <;> omega
noncomputable def joinEnc (ts : List Int) : List Int := (ts.map fun v => toI (encNat (zOf v))).flatten
theorem joinEnc_snoc (ts : List Int) (v : Int) : joinEnc (ts ++ [v]) = joinEnc ts ++ toI (encNat (zOf v)) := by simp [joinEnc]
theorem enc_small {v : Int} (h : small v) : (encNat (zOf v)).length ≤ 10 := by
  refine enc_len 9 ?_
  unfold zOf
  obtain ⟨h1, h2⟩ := h
  split <;> omega
theorem joinEnc_len {ts : List Int} (h : ∀ v ∈ ts, small v) : (joinEnc ts).length ≤ 10 * ts.length := by
  induction ts with
  | nil => simp [joinEnc]
  | cons v r ih =>
    have := ih fun x hx => h x (.tail _ hx)
    have e := enc_small (h v (.head _))
    simp only [joinEnc, List.map_cons, List.flatten_cons, List.length_append, List.length_cons, toI, List.length_map] at this ⊢
    omega
/-- the names that stay, behind the first loop -/
structure LC (l tA bA : Addr) (f0 : Int) (m : Str → Option Value) : Prop where
  sc : m (Str.ofString "script") = some (.ref l)
  fi : ∃ t, m (Str.ofString "first") = some (.int f0 t)
  to : m (Str.ofString "told") = some (.ref tA)
  jo : m (Str.ofString "joined") = some (.ref bA)
section
variable {w : World} {s₁ : Shared} {mg mb : Str → Option Value} {mean : ExcName → Option Value} {l L fa : Addr} {cd : Value} {vs : List Value} {ns : List Int}
set_option maxHeartbeats 4000000 in
theorem st7 (H : LawAt w s₁ mg mb mean l vs ns) {s : Shared} {ts : List Int}
    (hP : At s₁ L (fun m news => ∃ tA oC v tvs k', news = [(L + 1, oC), (tA, listOf (List.toArray tvs) k')] ∧ oC.data = .cell v ∧ IntsAre tvs ts ∧ m (Str.ofString "script") = some (.ref l) ∧ (∃ t, m (Str.ofString "first") = some (.int (ns.headD 0) t)) ∧ m (Str.ofString "told") = some (.ref tA)) s) :
    wpG (model PySem.Challenge.rw_ll0027_01.row.prog w) (callerA.deeper (envOfC (Str.ofString "law") lawS L fa cd)) (exec (lawSt 7) (envOfC (Str.ofString "law") lawS L fa cd))
      (Nxt (At s₁ L (fun m news => ∃ bA b tA oC v tvs k', octs b = [255] ∧ news = [(bA, baObj b), (L + 1, oC), (tA, listOf (List.toArray tvs) k')] ∧ oC.data = .cell v ∧ IntsAre tvs ts ∧ LC l tA bA (ns.headD 0) m))) (fun _ _ => False) s := by
  conv in lawSt 7 => whnf
  refine wpG_gen fun QQ EE hQQ _ => ?_
  obtain ⟨h, tk, m, news, rfl, F, N, ⟨tA, oC, v, tvs, k', rfl, hoC, hit, hm, ⟨t, hf⟩, hto⟩⟩ := hP
  obtain ⟨X, T, B, hl, hi, hz⟩ := H
  refine assignG (callG ?_)
  k_steps
  refine callWithG (argsG_cons (wpG_of ?_))
  k_steps
  rename Fr _ _ _ _ => F5
  rename News _ _ _ _ => N5
  refine argsG_nil ⟨kept_type, ?_⟩
  refine ba_call (byteArr [255]) (.inr ⟨_, [_], [255], rfl, ⟨_, (N5 _ (.head _)).1, rfl, _, rfl⟩, .cons _ _ .nil, by decide, rfl, by decide⟩) fun h3 tk3 hb3 hk3 => ?_
  have F3 := fr_ext F5 hk3
  have N3 := news_new F5 N5 hb3 hk3
  clear F5 N5
  k_steps
  rename Fr _ _ _ _ => F8
  rename News _ _ _ _ => N8
  refine hQQ _ _ ⟨rfl, At.mk F8 (news_sub N8 (fun p hp => ?_)) ⟨_, byteArr [255], tA, oC, v, tvs, k', octs_byteArr (by decide), rfl, hoC, hit, ⟨hm, ⟨_, hf⟩, hto, rfl⟩⟩⟩
  simp only [List.mem_cons, List.not_mem_nil, or_false] at hp ⊢
  rcases hp with h | h | h <;> simp [h]
set_option maxHeartbeats 4000000 in
theorem st8 (H : LawAt w s₁ mg mb mean l vs ns) {s : Shared} {ts : List Int} (hts : ∀ v ∈ ts, small v) (htl : ts.length ≤ 8)
    (hP : At s₁ L (fun m news => ∃ bA b tA oC v tvs k', octs b = [255] ∧ news = [(bA, baObj b), (L + 1, oC), (tA, listOf (List.toArray tvs) k')] ∧ oC.data = .cell v ∧ IntsAre tvs ts ∧ LC l tA bA (ns.headD 0) m) s) :
    wpG (model PySem.Challenge.rw_ll0027_01.row.prog w) (callerA.deeper (envOfC (Str.ofString "law") lawS L fa cd)) (exec (lawSt 8) (envOfC (Str.ofString "law") lawS L fa cd))
      (Nxt (At s₁ L (fun m news => ∃ bA b tA oC v tvs k', octs b = 255 :: joinEnc ts ∧ news = [(bA, baObj b), (L + 1, oC), (tA, listOf (List.toArray tvs) k')] ∧ oC.data = .cell v ∧ IntsAre tvs ts ∧ LC l tA bA (ns.headD 0) m))) (fun _ _ => False) s := by
  conv in lawSt 8 => whnf
  refine wpG_gen fun QQ EE hQQ _ => ?_
  have C := LawAt.cx (L := L) (fa := fa) (cd := cd) H
  obtain ⟨h, tk, m, news, rfl, F, N, ⟨bA, b, tA, oC, v, tvs, k', hb, rfl, hoC, hit, ⟨hm, ⟨t, hf⟩, hto, hjo⟩⟩⟩ := hP
  obtain ⟨X, T, B, hl, hi, hz⟩ := H
  have hbt : bA ≠ tA := news_ne N (.head _) (.tail _ (.tail _ (.head _))) fun q => absurd (congrArg Obj.cls q) (by simp)
  have hbc : bA ≠ L + 1 := news_ne N (b := L + 1) (.head _) (.tail _ (.head _)) fun q => by rw [← q] at hoC; cases hoC
  refine for_myG s₁.heap ?_ rfl rfl
  k_steps
  rename Fr _ _ _ _ => F5
  rename News _ _ _ _ => N5
  have k1 := Heap.lt_size (N5 _ (.head _)).1
  have k2 := Heap.lt_size (N5 _ (.tail _ (.head _))).1
  have k3 := Heap.lt_size (N5 _ (.tail _ (.tail _ (.head _)))).1
  have hlt := list_in (l := tA) (vs := tvs) N5 (.tail _ (.tail _ (.head _)))
  refine ⟨src_list rfl F5 N5 hlt fun I fp wr St h2 S st F3 N3 ni hfp => ⟨_, I, fp, wr, _, _, St, _, _,
    fun i m news => ∃ b, octs b = 255 :: joinEnc (ts.take i) ∧ news = [(bA, baObj b), (L + 1, oC), (tA, listOf (List.toArray tvs) k')] ∧ LC l tA bA (ns.headD 0) m,
    rfl, S, st, F3, N3, ni, ?_, ?_, ?_⟩⟩
  · exact ⟨b, by rw [hb]; rfl, rfl, ⟨hm, ⟨_, hf⟩, hto, hjo⟩⟩
  · intro i v m₁ news₁ h₁ tk own hi1 hP hJ hn1 F4 N4 hown
    obtain ⟨b2, hb2, rfl, ⟨hm, ⟨t, hf⟩, hto, hjo⟩⟩ := hJ
    obtain ⟨n, t1, hn, rfl⟩ := ints_at hit hP
    have hsn := hts n (List.mem_of_getElem? hn)
    have N6 : News s₁.heap L h₁ ((bA, baObj b2) :: (L + 1, oC) :: (tA, listOf (List.toArray tvs) k') :: own) := news_sub N4 fun p hp => by
      simp only [List.mem_cons, List.mem_append, List.not_mem_nil, or_false] at hp ⊢
      rcases hp with h | h | h | h <;> simp [h]
    have hob : ∀ p ∈ own, p.1 ≠ bA := fun p hp e => by
      rcases hfp _ (hown p hp) with q | q
      · exact hbt (e.symm.trans q)
      · exact absurd k1 (Nat.not_lt.mpr (e ▸ q))
    clear F3 N3 F5 N5 N4
    refine execsG_cons (exprG (callG ?_))
    k_steps
    refine callWithG (argsG_cons (wpG_of ?_))
    k_steps
    refine argsG_cons (wpG_of ?_)
    k_steps
    rename Fr _ _ _ _ => F2
    rename News _ _ _ _ => N2
    refine ap_attr (N2 _ (.head _)).1 ?_
    have hk3 : ∀ x o, h₁.get? x = some o → (h₁.push (apObj bA)).get? x = some o := fun x o e => Heap.get?_push_of_some _ e
    have F3 : Fr s₁.heap L (h₁.push (apObj bA)) _ := fr_ext F2 hk3
    have N3 : News s₁.heap L (h₁.push (apObj bA)) _ := news_new F2 N2 (Heap.get?_push_size _ rfl) hk3
    have N4 : News s₁.heap L (h₁.push (apObj bA)) ((bA, baObj b2) :: (h₁.objs.size, apObj bA) :: (L + 1, oC) :: (tA, listOf (List.toArray tvs) k') :: own) := news_sub N3 fun p hp => by
      rcases List.mem_cons.mp hp with rfl | hp
      · exact .tail _ (.head _)
      · rcases List.mem_cons.mp hp with rfl | hp
        · exact .head _
        · exact .tail _ (.tail _ hp)
    have hne2 : ∀ p ∈ (h₁.objs.size, apObj bA) :: (L + 1, oC) :: (tA, listOf (List.toArray tvs) k') :: own, p.1 ≠ bA := fun p hp => by
      rcases List.mem_cons.mp hp with rfl | hp
      · exact Ne.symm (Nat.ne_of_lt (Heap.lt_size (N2 _ (.head _)).1))
      rcases List.mem_cons.mp hp with rfl | hp
      · exact hbc.symm
      rcases List.mem_cons.mp hp with rfl | hp
      · exact hbt.symm
      exact hob p hp
    have hjl := joinEnc_len (ts := ts.take i) fun v hv => hts v (List.mem_of_mem_take hv)
    have hsz : b2.size ≤ 10000 := by
      have := octs_len b2
      rw [hb2] at this
      rw [List.length_take] at hjl
      simp only [List.length_cons] at this
      omega
    refine argsG_nil ⟨kept_K F3 X (fn44 w), ?_⟩
    refine enc_c C F3 (Nat.le_of_ble_eq_true rfl) N4 hne2 (.head _) hsz hsn.1 hsn.2 (zOf_eq n) fun h5 tk5 t5 n5 b5 hb5 hn5 F5 N5 => ?_
    dsimp only
    refine execsG_nil (turn_of F5 (news₂ := [(bA, baObj b5), (L + 1, oC), (tA, listOf (List.toArray tvs) k')]) (news_sub N5 fun p hp => ?_) ?_ ⟨b5, ?_, rfl, ⟨hm, ⟨_, hf⟩, hto, hjo⟩⟩)
    · rcases List.mem_append.mp hp with hp | hp
      · simp [hp]
      · simp only [List.mem_cons, List.not_mem_nil, or_false] at hp ⊢
        rcases hp with h | h | h <;> simp [h]
    · intro p hp
      simp only [List.mem_cons, List.not_mem_nil, or_false] at hp
      rcases hp with rfl | rfl | rfl
      · exact .inr k1
      · exact .inr k2
      · exact .inr k3
    · rw [hb5, hb2, take_snoc hn, joinEnc_snoc]; rfl
  · intro h2 tk m₁ news₁ F4 N4 ni hJ
    obtain ⟨b2, hb2, rfl, hb⟩ := hJ
    rw [List.take_of_length_le (by rw [ints_len hit]; exact Nat.le_refl _)] at hb2
    exact hQQ _ _ ⟨rfl, At.mk F4 N4 ⟨bA, b2, tA, oC, v, tvs, k', hb2, rfl, hoC, hit, hb⟩⟩
set_option maxHeartbeats 4000000 in
theorem st9 (H : LawAt w s₁ mg mb mean l vs ns) {s : Shared} {ts : List Int}
    (hP : At s₁ L (fun m news => ∃ bA b tA oC v tvs k', octs b = 255 :: joinEnc ts ∧ news = [(bA, baObj b), (L + 1, oC), (tA, listOf (List.toArray tvs) k')] ∧ oC.data = .cell v ∧ IntsAre tvs ts ∧ LC l tA bA (ns.headD 0) m) s) :
    wpG (model PySem.Challenge.rw_ll0027_01.row.prog w) (callerA.deeper (envOfC (Str.ofString "law") lawS L fa cd)) (exec (lawSt 9) (envOfC (Str.ofString "law") lawS L fa cd))
      (Nxt (At s₁ L (fun m news => ∃ bA b tA oC v tvs k' t, octs b = 255 :: joinEnc ts ∧ news = [(bA, baObj b), (L + 1, oC), (tA, listOf (List.toArray tvs) k')] ∧ oC.data = .cell v ∧ IntsAre tvs ts ∧ LC l tA bA (ns.headD 0) m ∧ m (Str.ofString "at") = some (.int 1 t)))) (fun _ _ => False) s := by
  conv in lawSt 9 => whnf
  refine wpG_gen fun QQ EE hQQ _ => ?_
  obtain ⟨h, tk, m, news, rfl, F, N, ⟨bA, b, tA, oC, v, tvs, k', hb, rfl, hoC, hit, ⟨hm, ⟨t, hf⟩, hto, hjo⟩⟩⟩ := hP
  obtain ⟨X, T, B, hl, hi, hz⟩ := H
  refine wpG_of ?_
  k_steps
  rename Fr _ _ _ _ => F8
  rename News _ _ _ _ => N8
  exact hQQ _ _ ⟨rfl, At.mk F8 N8 ⟨bA, b, tA, oC, v, tvs, k', _, hb, rfl, hoC, hit, ⟨hm, ⟨_, hf⟩, hto, hjo⟩, rfl⟩⟩
end
end
section
open PySem.SeqAt
set_option linter.unusedVariables false
set_option linter.unusedSimpArgs false
local macro_rules | `(tactic| walk_at "my pad") => `(tactic| skip)
theorem offE8 : True := by
  w_top off
  exact True.intro
local macro_rules | `(tactic| walk_at "pyIter ref") => `(tactic| refine' halt ?_)
local macro_rules | `(tactic| walk_at "call builtin:len") => `(tactic| refine' halt ?_)
theorem filledE8 (w : World) (_ : hd.heap_39 w.params = hd.heap_39 w.params) (_ : PySem.Challenge.rw_ll0027_01 = PySem.Challenge.rw_ll0027_01) : PySem.Challenge.rw_ll0027_01.row.prog = PySem.Challenge.rw_ll0027_01.row.prog ∧ hd.heap_39 w.params = hd.heap_39 w.params := by
  k_fill
  exact ⟨rfl, rfl⟩
/-- a written number is read again -/
noncomputable def MathDec : Prop := ∀ (pre post : List Int) (v : Int), small v → (∀ n ∈ pre, 0 ≤ n ∧ n < 256) → decS (pre ++ (toI (encNat (zOf v)) ++ post)) (pre.length : Int) = .ok v ((pre.length : Int) + ((encNat (zOf v)).length : Int))
theorem joinEnc_split {ts : List Int} {i : Nat} {n : Int} (h : ts[i]? = some n) : joinEnc ts = joinEnc (ts.take i) ++ (toI (encNat (zOf n)) ++ joinEnc (ts.drop (i + 1))) := by
  have e : ts = ts.take i ++ (n :: ts.drop (i + 1)) := by
    have h1 := List.take_append_drop i ts
    have hi : i < ts.length := (List.getElem?_eq_some_iff.mp h).1
    have h2 : ts.drop i = n :: ts.drop (i + 1) := by
      rw [List.drop_eq_getElem_cons hi, (List.getElem?_eq_some_iff.mp h).2]
    rw [h2] at h1; exact h1.symm
  conv => lhs; rw [e]
  simp [joinEnc]
section
variable {w : World} {s₁ : Shared} {mg mb : Str → Option Value} {mean : ExcName → Option Value} {l L fa : Addr} {cd : Value} {vs : List Value} {ns : List Int}
set_option maxHeartbeats 4000000 in
theorem st10 (H : LawAt w s₁ mg mb mean l vs ns) (HD : MathDec) {s : Shared} {ts : List Int} (hts : ∀ v ∈ ts, small v) (htl : ts.length ≤ 8)
    (hP : At s₁ L (fun m news => ∃ bA b tA oC v tvs k' t, octs b = 255 :: joinEnc ts ∧ news = [(bA, baObj b), (L + 1, oC), (tA, listOf (List.toArray tvs) k')] ∧ oC.data = .cell v ∧ IntsAre tvs ts ∧ LC l tA bA (ns.headD 0) m ∧ m (Str.ofString "at") = some (.int 1 t)) s) :
    wpG (model PySem.Challenge.rw_ll0027_01.row.prog w) (callerA.deeper (envOfC (Str.ofString "law") lawS L fa cd)) (exec (lawSt 10) (envOfC (Str.ofString "law") lawS L fa cd))
      (Nxt (At s₁ L (fun m news => ∃ bA b tA oC v tvs k' t, octs b = 255 :: joinEnc ts ∧ news = [(bA, baObj b), (L + 1, oC), (tA, listOf (List.toArray tvs) k')] ∧ oC.data = .cell v ∧ IntsAre tvs ts ∧ LC l tA bA (ns.headD 0) m ∧ m (Str.ofString "at") = some (.int (1 + ((joinEnc ts).length : Int)) t)))) (fun _ _ => False) s := by
  conv in lawSt 10 => whnf
  refine wpG_gen fun QQ EE hQQ _ => ?_
  have C := LawAt.cx (L := L) (fa := fa) (cd := cd) H
  obtain ⟨h, tk, m, news, rfl, F, N, ⟨bA, b, tA, oC, v, tvs, k', ta, hb, rfl, hoC, hit, ⟨hm, ⟨t, hf⟩, hto, hjo⟩, hat⟩⟩ := hP
  obtain ⟨X, T, B, hl, hi, hz⟩ := H
  have hjl := joinEnc_len hts
  have hbz : b.size ≤ 1000 := by have := octs_len b; rw [hb] at this; simp only [List.length_cons] at this; omega
  refine wpG_of (for_my s₁.heap ?_ rfl rfl)
  k_steps
  rename Fr _ _ _ _ => F5
  rename News _ _ _ _ => N5
  have k1 := Heap.lt_size (N5 _ (.head _)).1
  have k2 := Heap.lt_size (N5 _ (.tail _ (.head _))).1
  have k3 := Heap.lt_size (N5 _ (.tail _ (.tail _ (.head _)))).1
  have hlt := list_in (l := tA) (vs := tvs) N5 (.tail _ (.tail _ (.head _)))
  refine ⟨src_list rfl F5 N5 hlt fun I fp wr St h2 S st F3 N3 ni hfp => ⟨_, I, fp, wr, _, _, St, _, _,
    fun i m news => ∃ t, news = [(bA, baObj b), (L + 1, oC), (tA, listOf (List.toArray tvs) k')] ∧ LC l tA bA (ns.headD 0) m ∧ m (Str.ofString "at") = some (.int (1 + ((joinEnc (ts.take i)).length : Int)) t),
    rfl, S, st, F3, N3, ni, ?_, ?_, ?_⟩⟩
  · exact ⟨ta, rfl, ⟨hm, ⟨_, hf⟩, hto, hjo⟩, hat⟩
  · intro i v m₁ news₁ h₁ tk own hi1 hP hJ hn1 F4 N4 hown
    obtain ⟨ta2, rfl, ⟨hm, ⟨t, hf⟩, hto, hjo⟩, hat⟩ := hJ
    obtain ⟨n, t1, hn, rfl⟩ := ints_at hit hP
    have hsn := hts n (List.mem_of_getElem? hn)
    have N6 : News s₁.heap L h₁ ((bA, baObj b) :: (L + 1, oC) :: (tA, listOf (List.toArray tvs) k') :: own) := news_sub N4 fun p hp => by
      simp only [List.mem_cons, List.mem_append, List.not_mem_nil, or_false] at hp ⊢
      rcases hp with h | h | h | h <;> simp [h]
    have hdec : decS (255 :: joinEnc ts) (1 + ((joinEnc (ts.take i)).length : Int)) = .ok n (1 + ((joinEnc (ts.take (i + 1))).length : Int)) := by
      have e := HD (255 :: joinEnc (ts.take i)) (joinEnc (ts.drop (i + 1))) n hsn ?_
      · rw [joinEnc_split hn, take_snoc hn, joinEnc_snoc]
        simp only [List.cons_append, List.length_cons, List.length_append, toI, List.length_map] at e ⊢
        rw [show (1 : Int) + ((joinEnc (ts.take i)).length : Int) = (((joinEnc (ts.take i)).length + 1 : Nat) : Int) by omega, e]
        congr 1; omega
      · intro x hx
        have h5 := octs_range b
        rw [hb, joinEnc_split hn] at h5
        rcases List.mem_cons.mp hx with rfl | hx
        · decide
        · exact h5 x (by simp [hx])
    have hjl2 : (joinEnc (ts.take i)).length ≤ 80 := by
      have := joinEnc_len (ts := ts.take i) fun v hv => hts v (List.mem_of_mem_take hv)
      rw [List.length_take] at this; omega
    clear F3 N3 F5 N5 N4
    k_steps
    rename Fr _ _ _ _ => F2
    rename News _ _ _ _ => N2
    refine ⟨?_⟩
    refine' dec_c (x := .ref bA) (b := b) B X T ?q1 ?q2 ?q3 F2 N2 ?q4 ?q5 ?q6 ?q7 hb ?q9 ?q10 ?q11 ?q12 ?qk ?qe
    case q1 => rfl
    case q2 => rfl
    case q3 => rfl
    case q4 => rfl
    case q5 => exact Nat.le_of_ble_eq_true rfl
    case q6 => exact Nat.le_of_ble_eq_true rfl
    case q7 => exact .inr ⟨_, rfl, .head _⟩
    case q9 => exact hbz
    case q10 => exact .inr ⟨_, rfl⟩
    case q11 => omega
    case q12 => omega
    case qe =>
      intro h3 tk3 e3 X3 G3 hX
      rw [hdec] at hX
      rcases hX with ⟨q, _⟩ | ⟨q, _⟩ <;> cases q
    case qk =>
      intro h4 tk4 x4 a4 v4 e4 t4 u4 hd4 hx4 F4 N4
      subst hx4
      rw [hdec] at hd4
      cases hd4
      clear F2 N2
      k_steps
      · exact absurd rfl (by assumption)
      · rename Fr _ _ _ _ => F8
        rename News _ _ _ _ => N8
        refine turn_of F8 (news₂ := [(bA, baObj b), (L + 1, oC), (tA, listOf (List.toArray tvs) k')]) (news_sub N8 fun p hp => ?_) ?_ ⟨_, rfl, ⟨hm, ⟨_, hf⟩, hto, hjo⟩, rfl⟩
        · rcases List.mem_append.mp hp with hp | hp
          · simp [hp]
          · simp only [List.mem_cons, List.not_mem_nil, or_false] at hp ⊢
            rcases hp with h | h | h <;> simp [h]
        · intro p hp
          simp only [List.mem_cons, List.not_mem_nil, or_false] at hp
          rcases hp with rfl | rfl | rfl
          · exact .inr k1
          · exact .inr k2
          · exact .inr k3
  · intro h2 tk m₁ news₁ F4 N4 ni hJ
    obtain ⟨ta2, rfl, hb2, hat⟩ := hJ
    rw [List.take_of_length_le (by rw [ints_len hit]; exact Nat.le_refl _)] at hat
    exact hQQ _ _ ⟨rfl, At.mk F4 N4 ⟨bA, b, tA, oC, v, tvs, k', ta2, hb, rfl, hoC, hit, hb2, hat⟩⟩
set_option maxHeartbeats 4000000 in
theorem st11 (H : LawAt w s₁ mg mb mean l vs ns) {s : Shared} {ts : List Int} (hts : ∀ v ∈ ts, small v) (htl : ts.length ≤ 8)
    (hP : At s₁ L (fun m news => ∃ bA b tA oC v tvs k' t, octs b = 255 :: joinEnc ts ∧ news = [(bA, baObj b), (L + 1, oC), (tA, listOf (List.toArray tvs) k')] ∧ oC.data = .cell v ∧ IntsAre tvs ts ∧ LC l tA bA (ns.headD 0) m ∧ m (Str.ofString "at") = some (.int (1 + ((joinEnc ts).length : Int)) t)) s) :
    wpG (model PySem.Challenge.rw_ll0027_01.row.prog w) (callerA.deeper (envOfC (Str.ofString "law") lawS L fa cd)) (exec (lawSt 11) (envOfC (Str.ofString "law") lawS L fa cd))
      (Nxt (At s₁ L (fun m news => ∃ oC v, news = [(L + 1, oC)] ∧ oC.data = .cell v ∧ m (Str.ofString "script") = some (.ref l) ∧ ∃ t, m (Str.ofString "first") = some (.int (ns.headD 0) t)))) (fun _ _ => False) s := by
  conv in lawSt 11 => whnf
  refine wpG_gen fun QQ EE hQQ _ => ?_
  obtain ⟨h, tk, m, news, rfl, F, N, ⟨bA, b, tA, oC, v, tvs, k', ta, hb, rfl, hoC, hit, ⟨hm, ⟨t, hf⟩, hto, hjo⟩, hat⟩⟩ := hP
  obtain ⟨X, T, B, hl, hi, hz⟩ := H
  have hjl := joinEnc_len hts
  have hbs := octs_len b
  rw [hb] at hbs
  simp only [List.length_cons] at hbs
  refine wpG_of ?_
  k_steps
  rename Fr _ _ _ _ => F5
  rename News _ _ _ _ => N5
  refine ⟨buf_len (buf_of (a := bA) (b := b) N5 (.head _)) (Nat.le_trans (show b.size ≤ 1000 by omega) (by decide)) fun t6 k6 => ?_⟩
  k_steps
  · refine absurd ?_ (show ¬ _ by assumption)
    omega
  · exact hQQ _ _ ⟨rfl, At.mk F5 (news_sub N5 fun p hp => by rw [List.mem_singleton.mp hp]; simp) ⟨oC, v, rfl, hoC, hm, _, hf⟩⟩
end
end
section
open PySem.SeqAt
set_option linter.unusedVariables false
set_option linter.unusedSimpArgs false
theorem offE9 : True := by
  w_top off
  exact True.intro
theorem news_dup' {h₀ h : Heap} {L a : Addr} {o : Obj} {m : Str → Option Value} {news : List (Addr × Obj)} (F : Fr h₀ L h m) (N : News h₀ L h news) (ho : h.get? a = some o) (hn : h₀.get? a = none) (hd : ∀ es n, o.data ≠ .dict es n := by intro _ _ q; cases q) : News h₀ L h ((a, o) :: news) := fun p hp => by
  rcases List.mem_cons.mp hp with rfl | hp
  · exact ⟨ho, (ns_not F ho hd).symm, hn⟩
  · exact N p hp
theorem filledE9 (w : World) (_ : hd.heap_39 w.params = hd.heap_39 w.params) (_ : PySem.Challenge.rw_ll0027_01 = PySem.Challenge.rw_ll0027_01) : PySem.Challenge.rw_ll0027_01.row.prog = PySem.Challenge.rw_ll0027_01.row.prog ∧ hd.heap_39 w.params = hd.heap_39 w.params := by
  k_fill
  exact ⟨rfl, rfl⟩
noncomputable def plainOf (ns : List Int) : List Int := [(ns.headD 0).fmod 256] ++ ((ns.drop 1).take 11).map (fun n => (n.fdiv 5).fmod 256) ++ [0, 255]
theorem plainOf_len (ns : List Int) : 3 ≤ (plainOf ns).length ∧ (plainOf ns).length ≤ 14 := by
  unfold plainOf
  simp only [List.length_append, List.length_map, List.length_take, List.length_drop, List.length_cons, List.length_nil]
  omega
theorem plainOf_range (ns : List Int) : ∀ n ∈ plainOf ns, 0 ≤ n ∧ n < 256 := by
  intro n hn
  have e3 := fun a : Int => Int.fmod_nonneg_of_pos a (show (0 : Int) < 256 by decide)
  have e4 := fun a : Int => Int.fmod_lt_of_pos a (show (0 : Int) < 256 by decide)
  unfold plainOf at hn
  rcases List.mem_append.mp hn with h | h
  · rcases List.mem_append.mp h with h | h
    · rw [List.mem_singleton.mp h]; exact ⟨e3 _, e4 _⟩
    · obtain ⟨x, _, rfl⟩ := List.mem_map.mp h; exact ⟨e3 _, e4 _⟩
  · simp only [List.mem_cons, List.not_mem_nil, or_false] at h
    rcases h with rfl | rfl <;> decide
section
variable {w : World} {s₁ : Shared} {mg mb : Str → Option Value} {mean : ExcName → Option Value} {l L fa : Addr} {cd : Value} {vs : List Value} {ns : List Int}
set_option maxHeartbeats 4000000 in
theorem st12 (H : LawAt w s₁ mg mb mean l vs ns) {s : Shared}
    (hP : At s₁ L (fun m news => ∃ oC v, news = [(L + 1, oC)] ∧ oC.data = .cell v ∧ m (Str.ofString "script") = some (.ref l) ∧ ∃ t, m (Str.ofString "first") = some (.int (ns.headD 0) t)) s) :
    wpG (model PySem.Challenge.rw_ll0027_01.row.prog w) (callerA.deeper (envOfC (Str.ofString "law") lawS L fa cd)) (exec (lawSt 12) (envOfC (Str.ofString "law") lawS L fa cd))
      (Nxt (At s₁ L (fun m news => ∃ oC v pA ps k, news = [(pA, listOf (List.toArray ps) k), (L + 1, oC)] ∧ oC.data = .cell v ∧ IntsAre ps (plainOf ns) ∧ m (Str.ofString "plain") = some (.ref pA) ∧ ∃ t, m (Str.ofString "first") = some (.int (ns.headD 0) t)))) (fun _ _ => False) s := by
  conv in lawSt 12 => whnf
  refine wpG_gen fun QQ EE hQQ _ => ?_
  obtain ⟨h, tk, m, news, rfl, F, N, ⟨oC, v, rfl, hoC, hm, t, hf⟩⟩ := hP
  obtain ⟨X, T, B, hl, hi, hz⟩ := H
  refine wpG_of ?_
  k_steps
  rename NewPlain _ _ _ _ => hp5
  rename CarriedAll _ _ => hc5
  rename Heap.get? s₁.heap _ = none => hn5
  rename Fr _ _ _ _ => F5
  rename News _ _ _ _ => N5
  rename Heap.IsList _ _ (List.toArray _) => hq5
  have hi5 := IntsAre.ofCarried (ns := ((ns.drop 1).take 11).map fun n => (n.fdiv 5).fmod 256) (by
    have e : List.take (min 12 ns.length - 1) (List.drop 1 ns) = (ns.drop 1).take 11 := take_min ns 12 1
    rw [List.filter_eq_self.mpr (fun _ _ => rfl), e] at hc5
    rw [List.map_map]
    exact hc5)
  obtain ⟨⟨n5, ho5⟩, hd5⟩ := hp5
  have N6 := news_dup' (o := listOf _ n5) F5 N5 ho5 hn5
  clear N5 hc5 hq5
  k_steps
  rename Fr _ _ _ _ => F8
  rename News _ _ _ _ => N8
  rename IntsAre _ _ => hI8
  have N9 := news_first (own := []) (q := (L + 1, oC)) N8 (by simp) (fun x hx => by simp at hx)
  exact hQQ _ _ ⟨rfl, At.mk F8 N9 ⟨oC, v, _, _, _, rfl, hoC, hI8, rfl, _, hf⟩⟩
set_option maxHeartbeats 4000000 in
theorem st13 (H : LawAt w s₁ mg mb mean l vs ns) {s : Shared}
    (hP : At s₁ L (fun m news => ∃ oC v pA ps k, news = [(pA, listOf (List.toArray ps) k), (L + 1, oC)] ∧ oC.data = .cell v ∧ IntsAre ps (plainOf ns) ∧ m (Str.ofString "plain") = some (.ref pA) ∧ ∃ t, m (Str.ofString "first") = some (.int (ns.headD 0) t)) s) :
    wpG (model PySem.Challenge.rw_ll0027_01.row.prog w) (callerA.deeper (envOfC (Str.ofString "law") lawS L fa cd)) (exec (lawSt 13) (envOfC (Str.ofString "law") lawS L fa cd))
      (Nxt (At s₁ L (fun m news => ∃ oC v pA ps k pl, 0 ≤ pl ∧ pl ≤ ((plainOf ns).length : Int) ∧ news = [(pA, listOf (List.toArray ps) k), (L + 1, oC)] ∧ oC.data = .cell v ∧ IntsAre ps (plainOf ns) ∧ m (Str.ofString "plain") = some (.ref pA) ∧ ∃ t, m (Str.ofString "place") = some (.int pl t)))) (fun _ _ => False) s := by
  conv in lawSt 13 => whnf
  refine wpG_gen fun QQ EE hQQ _ => ?_
  obtain ⟨h, tk, m, news, rfl, F, N, ⟨oC, v, pA, ps, k, rfl, hoC, hps, hp, t, hf⟩⟩ := hP
  obtain ⟨X, T, B, hl, hi, hz⟩ := H
  obtain ⟨p1, p2⟩ := plainOf_len ns
  refine wpG_of ?_
  k_steps
  rename Fr _ _ _ _ => F8
  rename News _ _ _ _ => N8
  refine hQQ _ _ ⟨rfl, At.mk F8 N8 ⟨oC, v, pA, ps, k, _, Int.fmod_nonneg_of_pos _ (show (0 : Int) < ((plainOf ns).length : Int) + 1 by omega), ?_, rfl, hoC, hps, hp, _, rfl⟩⟩
  have := Int.fmod_lt_of_pos ((ns.headD 0).fdiv 256) (show (0 : Int) < ((plainOf ns).length : Int) + 1 by omega)
  omega
set_option maxHeartbeats 4000000 in
theorem st14 (H : LawAt w s₁ mg mb mean l vs ns) {s : Shared}
    (hP : At s₁ L (fun m news => ∃ oC v pA ps k pl, 0 ≤ pl ∧ pl ≤ ((plainOf ns).length : Int) ∧ news = [(pA, listOf (List.toArray ps) k), (L + 1, oC)] ∧ oC.data = .cell v ∧ IntsAre ps (plainOf ns) ∧ m (Str.ofString "plain") = some (.ref pA) ∧ ∃ t, m (Str.ofString "place") = some (.int pl t)) s) :
    wpG (model PySem.Challenge.rw_ll0027_01.row.prog w) (callerA.deeper (envOfC (Str.ofString "law") lawS L fa cd)) (exec (lawSt 14) (envOfC (Str.ofString "law") lawS L fa cd))
      (Nxt (At s₁ L (fun m news => ∃ oC t pA ps k pl, 0 ≤ pl ∧ pl ≤ ((plainOf ns).length : Int) ∧ news = [(pA, listOf (List.toArray ps) k), (L + 1, oC)] ∧ oC.data = .cell (some (.int (Builtin.bitXor (sumN (plainOf ns)) 4294967295) t)) ∧ IntsAre ps (plainOf ns) ∧ m (Str.ofString "plain") = some (.ref pA) ∧ ∃ t, m (Str.ofString "place") = some (.int pl t)))) (fun _ _ => False) s := by
  conv in lawSt 14 => whnf
  refine wpG_gen fun QQ EE hQQ _ => ?_
  have C := LawAt.cx (L := L) (fa := fa) (cd := cd) H
  obtain ⟨h, tk, m, news, rfl, F, N, ⟨oC, v, pA, ps, k, pl, b1, b2, rfl, hoC, hps, hp, t, hpl⟩⟩ := hP
  obtain ⟨X, T, B, hl, hi, hz⟩ := H
  have hpc : pA ≠ L + 1 := news_ne N (b := L + 1) (.head _) (.tail _ (.head _)) fun q => by rw [← q] at hoC; cases hoC
  refine wpG_of ?_
  k_steps
  rename Fr _ _ _ _ => F2
  rename News _ _ _ _ => N2
  refine ⟨sum_c C F2 N2 rfl (Nat.le_of_ble_eq_true rfl) (.head _) hps (plainOf_range ns) fun h3 tk3 t3 n3 e3 F3 N3 => ?_⟩
  subst e3
  clear F2 N2
  k_steps
  rename Fr _ _ _ _ => F8
  rename News _ _ _ _ => N8
  exact hQQ _ _ ⟨rfl, At.mk F8 N8 ⟨_, t3, pA, ps, k, pl, b1, b2, rfl, by assumption, hps, hp, _, hpl⟩⟩
end
end
section
open PySem.SeqAt
set_option linter.unusedVariables false
set_option linter.unusedSimpArgs false
theorem offF1 : True := by
  w_top off
  exact True.intro
local macro_rules | `(tactic| walk_at "call type:bytes") => `(tactic| refine' halt ?_)
local macro_rules | `(tactic| walk_at "eval Name") => `(tactic| walk_at "my nameB")
theorem filledF1 (w : World) (_ : hd.heap_39 w.params = hd.heap_39 w.params) (_ : PySem.Challenge.rw_ll0027_01 = PySem.Challenge.rw_ll0027_01) : PySem.Challenge.rw_ll0027_01.row.prog = PySem.Challenge.rw_ll0027_01.row.prog ∧ hd.heap_39 w.params = hd.heap_39 w.params := by
  k_fill
  exact ⟨rfl, rfl⟩
theorem fn23 (w : World) : ∃ o, (hd.heap_39 w.params).lookup 23 = some o ∧ ∃ fd, o.data = .func fd := by
  apply Exists.intro
  apply And.intro
  · k_is
  · exact ⟨_, rfl⟩
theorem fn37 (w : World) : ∃ o, (hd.heap_39 w.params).lookup 37 = some o ∧ ∃ fd, o.data = .func fd := by
  apply Exists.intro
  apply And.intro
  · k_is
  · exact ⟨_, rfl⟩
theorem octs_ba_of {news : List (Addr × Obj)} {a : Addr} {ns : List Int} (h : (a, baObj (byteArr ns)) ∈ news) (hr : ∀ n ∈ ns, 0 ≤ n ∧ n < 256) : Octs news (.ref a) ns := by
  have := Octs.ba h
  rwa [octs_byteArr hr] at this
theorem crcN_range (ns : List Int) : 0 ≤ crcN ns ∧ crcN ns < 2 ^ 32 := by unfold crcN; rw [bitAnd_m32]; omega
noncomputable def dueSum (ns : List Int) : Int := Builtin.bitXor (sumN ns) 4294967295
/-- what the sums' maths must say -/
structure MathCrc : Prop where
  crc : ∀ ns : List Int, (∀ n ∈ ns, 0 ≤ n ∧ n < 256) → crcN ns = dueSum ns
  upd : ∀ a b : List Int, (∀ n ∈ a, 0 ≤ n ∧ n < 256) → (∀ n ∈ b, 0 ≤ n ∧ n < 256) → updN (crcN a) b = dueSum (a ++ b)
  rest : ∀ ns : List Int, (∀ n ∈ ns, 0 ≤ n ∧ n < 256) → crcN (ns ++ (List.range 4).map fun k : Nat => ((dueSum ns).fdiv (256 ^ k)).fmod 256) = dueSum [0, 0, 0, 0]
section
variable {w : World} {s₁ : Shared} {mg mb : Str → Option Value} {mean : ExcName → Option Value} {l L fa : Addr} {cd : Value} {vs : List Value} {ns : List Int}
set_option maxHeartbeats 4000000 in
theorem st15 (H : LawAt w s₁ mg mb mean l vs ns) (HC : MathCrc) {s : Shared}
    (hP : At s₁ L (fun m news => ∃ oC t pA ps k pl, 0 ≤ pl ∧ pl ≤ ((plainOf ns).length : Int) ∧ news = [(pA, listOf (List.toArray ps) k), (L + 1, oC)] ∧ oC.data = .cell (some (.int (dueSum (plainOf ns)) t)) ∧ IntsAre ps (plainOf ns) ∧ m (Str.ofString "plain") = some (.ref pA) ∧ ∃ t, m (Str.ofString "place") = some (.int pl t)) s) :
    wpG (model PySem.Challenge.rw_ll0027_01.row.prog w) (callerA.deeper (envOfC (Str.ofString "law") lawS L fa cd)) (exec (lawSt 15) (envOfC (Str.ofString "law") lawS L fa cd))
      (Nxt (At s₁ L (fun m news => ∃ oC t pA ps k pl, 0 ≤ pl ∧ pl ≤ ((plainOf ns).length : Int) ∧ news = [(pA, listOf (List.toArray ps) k), (L + 1, oC)] ∧ oC.data = .cell (some (.int (dueSum (plainOf ns)) t)) ∧ IntsAre ps (plainOf ns) ∧ m (Str.ofString "plain") = some (.ref pA) ∧ ∃ t, m (Str.ofString "place") = some (.int pl t)))) (fun _ _ => False) s := by
  conv in lawSt 15 => whnf
  refine wpG_gen fun QQ EE hQQ _ => ?_
  have C := LawAt.cx (L := L) (fa := fa) (cd := cd) H
  obtain ⟨h, tk, m, news, rfl, F, N, ⟨oC, t, pA, ps, k, pl, b1, b2, rfl, hoC, hps, hp, tp, hpl⟩⟩ := hP
  obtain ⟨X, T, B, hl, hi, hz⟩ := H
  obtain ⟨p1, p2⟩ := plainOf_len ns
  have hpr := plainOf_range ns
  have hpsl : ps.length ≤ sizeLine := by rw [← ints_len hps]; exact Nat.le_trans p2 (by decide)
  refine ifG (isTrueG_Compare (tupleG (argsG_cons (wpG_of ?_))))
  k_steps
  rename Fr _ _ _ _ => F2
  rename News _ _ _ _ => N2
  refine ⟨call_bytes_ints (list_in N2 (.head _)) hps hpr hpsl rfl fun h3 t3 k3 hk3 => ?_⟩
  have F3 := fr_ext F2 hk3
  have N3 := news_ext N2 hk3
  clear F2 N2
  k_steps
  rename Fr _ _ _ _ => F2
  rename News _ _ _ _ => N2
  refine ⟨?_⟩
  refine calc_c C F2 N2 rfl (Nat.le_of_ble_eq_true rfl) (ns := plainOf ns) ?_ fun h4 tk4 t4 n4 news4 e4 hs4 F4 N4 => ?_
  · have := Octs.bytes (news := [(pA, listOf (List.toArray ps) k), (L + 1, oC)]) (byteArr (plainOf ns)) t3
    rwa [octs_byteArr hpr] at this
  have N5 := news_sub N4 hs4
  clear F2 N2 N4
  refine argsG_cons (callG ?_)
  k_steps
  refine callWithG (argsG_cons (callG ?_))
  k_steps
  refine callWithG (argsG_cons (wpG_of ?_))
  k_steps
  rename Fr _ _ _ _ => F2
  rename News _ _ _ _ => N2
  refine argsG_nil ⟨kept_type, ?_⟩
  refine ba_call (byteArr (plainOf ns)) (.inr ⟨pA, ps, plainOf ns, rfl, list_in N2 (.head _), hps, hpr, rfl, Nat.le_trans p2 (by decide)⟩) fun h5 tk5 hb5 hk5 => ?_
  have F5 : Fr s₁.heap L h5 _ := fr_ext F2 hk5
  have N6 : News s₁.heap L h5 _ := news_new F2 N2 hb5 hk5
  clear F2 N2
  refine argsG_nil ⟨kept_K F5 X (fn37 w), wpG_of ?_⟩
  have hox := Octs.ba (news := _) (List.Mem.head _ : _ ∈ (h4.objs.size, baObj (byteArr (plainOf ns))) :: [(pA, listOf (List.toArray ps) k), (L + 1, oC)])
  rw [octs_byteArr hpr] at hox
  refine crc_c C F5 N6 rfl (Nat.le_of_ble_eq_true rfl) hox fun h7 tk7 t7 n7 news7 e7 hs7 F7 N7 => ?_
  have N8 := news_sub N7 (fun p hp => hs7 p (List.Mem.tail _ hp))
  clear N6 F5 N7
  refine argsG_cons (wpG_of ?_)
  k_steps
  rename Fr _ _ _ _ => F2
  rename News _ _ _ _ => N2
  refine ⟨?_⟩
  refine crc_c C F2 N2 rfl (Nat.le_of_ble_eq_true rfl) (.list (.head _) hps hpr hpsl) fun h9 tk9 t9 n9 news9 e9 hs9 F9 N9 => ?_
  have N10 := news_sub N9 hs9
  clear F2 N2 N9
  refine argsG_nil ?_
  rw [HC.crc _ hpr] at e4 e7 e9
  subst e4 e7 e9
  k_steps
  rename Fr _ _ _ _ => F8
  rename News _ _ _ _ => N8
  refine execsG_nil (hQQ _ _ ⟨rfl, At.mk F8 (news_sub N8 (fun p hp => ?_)) ⟨oC, t, pA, ps, k, pl, b1, b2, rfl, hoC, hps, hp, _, hpl⟩⟩)
  simp only [List.mem_cons, List.not_mem_nil, or_false] at hp ⊢
  rcases hp with h | h <;> simp [h]
set_option maxHeartbeats 4000000 in
theorem st16 (H : LawAt w s₁ mg mb mean l vs ns) (HC : MathCrc) {s : Shared}
    (hP : At s₁ L (fun m news => ∃ oC t pA ps k pl, 0 ≤ pl ∧ pl ≤ ((plainOf ns).length : Int) ∧ news = [(pA, listOf (List.toArray ps) k), (L + 1, oC)] ∧ oC.data = .cell (some (.int (dueSum (plainOf ns)) t)) ∧ IntsAre ps (plainOf ns) ∧ m (Str.ofString "plain") = some (.ref pA) ∧ ∃ t, m (Str.ofString "place") = some (.int pl t)) s) :
    wpG (model PySem.Challenge.rw_ll0027_01.row.prog w) (callerA.deeper (envOfC (Str.ofString "law") lawS L fa cd)) (exec (lawSt 16) (envOfC (Str.ofString "law") lawS L fa cd))
      (Nxt (At s₁ L (fun m news => ∃ oC t pA ps k, news = [(pA, listOf (List.toArray ps) k), (L + 1, oC)] ∧ oC.data = .cell (some (.int (dueSum (plainOf ns)) t)) ∧ IntsAre ps (plainOf ns) ∧ m (Str.ofString "plain") = some (.ref pA)))) (fun _ _ => False) s := by
  conv in lawSt 16 => whnf
  refine wpG_gen fun QQ EE hQQ _ => ?_
  have C := LawAt.cx (L := L) (fa := fa) (cd := cd) H
  obtain ⟨h, tk, m, news, rfl, F, N, ⟨oC, t, pA, ps, k, pl, b1, b2, rfl, hoC, hps, hp, tp, hpl⟩⟩ := hP
  obtain ⟨X, T, B, hl, hi, hz⟩ := H
  obtain ⟨p1, p2⟩ := plainOf_len ns
  have hpr := plainOf_range ns
  refine ifG (isTrueG_Compare (callG ?_))
  k_steps
  refine callWithG (argsG_cons (wpG_of ?_))
  k_steps
  rename Fr _ _ _ _ => F2
  rename News _ _ _ _ => N2
  rename IntsAre _ (List.take _ _) => hi2
  have hr2 : ∀ n ∈ List.take pl.toNat (plainOf ns), 0 ≤ n ∧ n < 256 := fun n hn => hpr n (List.mem_of_mem_take hn)
  refine ⟨call_bytes_ints (list_in N2 (.head _)) hi2 hr2 (by rw [← ints_len hi2, List.length_take]; exact Nat.le_trans (show _ ≤ 100 by omega) (by decide)) rfl fun h3 t3 k3 hk3 => ?_⟩
  have F3 := fr_ext F2 hk3
  have N3 := news_ext (news_sub N2 (fun p hp => List.Mem.tail _ hp)) hk3
  clear F2 N2
  k_steps
  rename Fr _ _ _ _ => F2
  rename News _ _ _ _ => N2
  refine ⟨?_⟩
  refine crc_c C F2 N2 rfl (Nat.le_of_ble_eq_true rfl) (ns := List.take pl.toNat (plainOf ns)) ?_ fun h4 tk4 t4 n4 news4 e4 hs4 F4 N4 => ?_
  · have := Octs.bytes (news := [(pA, listOf (List.toArray ps) k), (L + 1, oC)]) (byteArr (List.take pl.toNat (plainOf ns))) t3
    rwa [octs_byteArr hr2] at this
  have N5 := news_sub N4 hs4
  clear F2 N2 N4
  refine argsG_cons (callG ?_)
  k_steps
  refine callWithG (argsG_cons (wpG_of ?_))
  k_steps
  rename Fr _ _ _ _ => F2
  rename News _ _ _ _ => N2
  rename IntsAre _ (List.drop _ _) => hi5
  have hr5 : ∀ n ∈ List.drop pl.toNat (plainOf ns), 0 ≤ n ∧ n < 256 := fun n hn => hpr n (List.mem_of_mem_drop hn)
  refine argsG_nil ⟨kept_type, ?_⟩
  refine ba_call (byteArr (List.drop pl.toNat (plainOf ns))) (.inr ⟨_, _, _, rfl, list_in N2 (.head _), hi5, hr5, rfl, by rw [List.length_drop]; exact Nat.le_trans (show _ ≤ 100 by omega) (by decide)⟩) fun h5 tk5 hb5 hk5 => ?_
  have F5 : Fr s₁.heap L h5 _ := fr_ext F2 hk5
  have N6 : News s₁.heap L h5 _ := news_new F2 (news_sub N2 (fun p hp => List.Mem.tail _ hp)) hb5 hk5
  clear F2 N2
  refine argsG_nil ⟨kept_K F5 X (fn23 w), wpG_of ?_⟩
  refine upd_c C F5 N6 rfl (Nat.le_of_ble_eq_true rfl) (ns := List.drop pl.toNat (plainOf ns)) (octs_ba_of (.head _) hr5) (by rw [e4]; exact (crcN_range _).1) (by rw [e4]; exact (crcN_range _).2) fun h7 tk7 t7 n7 news7 e7 hs7 F7 N7 => ?_
  have N8 := news_sub N7 (fun p hp => hs7 p (List.Mem.tail _ hp))
  rw [e4, HC.upd _ _ hr2 hr5, List.take_append_drop] at e7
  subst e7
  clear N6 F5 N7
  k_steps
  · exact absurd rfl (by assumption)
  rename Fr _ _ _ _ => F8
  rename News _ _ _ _ => N9
  exact execsG_nil (hQQ _ _ ⟨rfl, At.mk F8 N9 ⟨oC, t, pA, ps, k, rfl, hoC, hps, hp⟩⟩)
end
end
section
open PySem.SeqAt
set_option linter.unusedVariables false
set_option linter.unusedSimpArgs false
theorem offF4 : True := by
  w_top off
  exact True.intro
local macro_rules | `(tactic| walk_at "call type:bytes") => `(tactic| refine' halt ?_)
theorem filledF2 (w : World) (_ : hd.heap_39 w.params = hd.heap_39 w.params) (_ : PySem.Challenge.rw_ll0027_01 = PySem.Challenge.rw_ll0027_01) : PySem.Challenge.rw_ll0027_01.row.prog = PySem.Challenge.rw_ll0027_01.row.prog ∧ hd.heap_39 w.params = hd.heap_39 w.params := by
  k_fill
  exact ⟨rfl, rfl⟩
theorem dueSum_range {ns : List Int} (h : ∀ n ∈ ns, 0 ≤ n ∧ n < 256) : 0 ≤ dueSum ns ∧ dueSum ns < 2 ^ 32 := xor_range (sumN_range h).1 (sumN_range h).2
noncomputable def behindOf (ns : List Int) : List Int := plainOf ns ++ (List.range 4).map fun k : Nat => ((dueSum (plainOf ns)).fdiv (256 ^ k)).fmod 256
theorem behindOf_range (ns : List Int) : ∀ n ∈ behindOf ns, 0 ≤ n ∧ n < 256 := fun n hn => by
  rcases List.mem_append.mp hn with h | h
  · exact plainOf_range ns n h
  · obtain ⟨k, _, rfl⟩ := List.mem_map.mp h
    exact ⟨Int.fmod_nonneg_of_pos _ (by decide), Int.fmod_lt_of_pos _ (by decide)⟩
section
variable {w : World} {s₁ : Shared} {mg mb : Str → Option Value} {mean : ExcName → Option Value} {l L fa : Addr} {cd : Value} {vs : List Value} {ns : List Int}
set_option maxHeartbeats 4000000 in
theorem st17 (H : LawAt w s₁ mg mb mean l vs ns) {s : Shared}
    (hP : At s₁ L (fun m news => ∃ oC t pA ps k, news = [(pA, listOf (List.toArray ps) k), (L + 1, oC)] ∧ oC.data = .cell (some (.int (dueSum (plainOf ns)) t)) ∧ IntsAre ps (plainOf ns) ∧ m (Str.ofString "plain") = some (.ref pA)) s) :
    wpG (model PySem.Challenge.rw_ll0027_01.row.prog w) (callerA.deeper (envOfC (Str.ofString "law") lawS L fa cd)) (exec (lawSt 17) (envOfC (Str.ofString "law") lawS L fa cd))
      (Nxt (At s₁ L (fun m news => ∃ bA bs k, news = [(bA, listOf (List.toArray bs) k)] ∧ IntsAre bs (behindOf ns) ∧ m (Str.ofString "behind") = some (.ref bA)))) (fun _ _ => False) s := by
  conv in lawSt 17 => whnf
  obtain ⟨h, tk, m, news, rfl, F, N, ⟨oC, t, pA, ps, k, rfl, hoC, hps, hp⟩⟩ := hP
  obtain ⟨X, T, B, hl, hi, hz⟩ := H
  obtain ⟨p1, p2⟩ := plainOf_len ns
  obtain ⟨d1, d2⟩ := dueSum_range (plainOf_range ns)
  unfold behindOf
  generalize hZ : dueSum (plainOf ns) = Z at *
  refine wpG_of ?_
  k_steps
  · rename (256 : Int) ^ _ = 0 => hx
    exact absurd hx (Int.ne_of_gt (Int.pow_pos (by decide)))
  · rename Fr _ _ _ _ => F8
    rename News _ _ _ _ => N8
    rename IntsAre _ (_ ++ _) => hI8
    refine ⟨rfl, At.mk F8 (news_sub N8 (fun p hp => ?_)) ⟨_, _, 0, rfl, eq_ints hI8 ?_, rfl⟩⟩
    · rw [List.mem_singleton.mp hp]; exact .head _
    · have e1 : rangeKs 0 (4 - 0 : Int).toNat = [0, 1, 2, 3] := by decide
      have e2 : List.range 4 = [0, 1, 2, 3] := by decide
      rw [e1, e2]
      rfl
end
end
section
open PySem.SeqAt
set_option linter.unusedVariables false
set_option linter.unusedSimpArgs false
local macro_rules | `(tactic| walk_at "my pad") => `(tactic| skip)
theorem offF3 : True := by
  w_top off
  exact True.intro
local macro_rules | `(tactic| walk_at "call type:bytes") => `(tactic| refine' halt ?_)
theorem filledF3 (w : World) (_ : hd.heap_39 w.params = hd.heap_39 w.params) (_ : PySem.Challenge.rw_ll0027_01 = PySem.Challenge.rw_ll0027_01) : PySem.Challenge.rw_ll0027_01.row.prog = PySem.Challenge.rw_ll0027_01.row.prog ∧ hd.heap_39 w.params = hd.heap_39 w.params := by
  k_fill
  exact ⟨rfl, rfl⟩
section
variable {w : World} {s₁ : Shared} {mg mb : Str → Option Value} {mean : ExcName → Option Value} {l L fa : Addr} {cd : Value} {vs : List Value} {ns : List Int}
set_option maxHeartbeats 4000000 in
theorem st18 (H : LawAt w s₁ mg mb mean l vs ns) {s : Shared} (hrest : crcN (behindOf ns) = dueSum [0, 0, 0, 0])
    (hP : At s₁ L (fun m news => ∃ bA bs k, news = [(bA, listOf (List.toArray bs) k)] ∧ IntsAre bs (behindOf ns) ∧ m (Str.ofString "behind") = some (.ref bA)) s) {Q : Flow → Shared → Prop}
    (kn : ∀ h tk m news, Fr s₁.heap L h m → News s₁.heap L h news → Q (.ret (.bool true)) { s₁ with heap := h, toks := tk }) :
    wpG (model PySem.Challenge.rw_ll0027_01.row.prog w) (callerA.deeper (envOfC (Str.ofString "law") lawS L fa cd)) (exec (lawSt 18) (envOfC (Str.ofString "law") lawS L fa cd)) Q (fun _ _ => False) s := by
  conv in lawSt 18 => whnf
  have C := LawAt.cx (L := L) (fa := fa) (cd := cd) H
  obtain ⟨h, tk, m, news, rfl, F, N, ⟨bA, bs, k, rfl, hbs, hb⟩⟩ := hP
  obtain ⟨X, T, B, hl, hi, hz⟩ := H
  obtain ⟨p1, p2⟩ := plainOf_len ns
  have hbr := behindOf_range ns
  have hbl : (behindOf ns).length ≤ 20 := by unfold behindOf; rw [List.length_append, List.length_map, List.length_range]; omega
  refine wpG_of ?_
  k_steps
  rename Fr _ _ _ _ => F2
  rename News _ _ _ _ => N2
  refine ⟨call_bytes_ints (list_in N2 (.head _)) hbs hbr (by rw [← ints_len hbs]; exact Nat.le_trans hbl (by decide)) rfl fun h3 t3 k3 hk3 => ?_⟩
  have F3 := fr_ext F2 hk3
  have N3 := news_ext N2 hk3
  clear F2 N2
  k_steps
  rename Fr _ _ _ _ => F2
  rename News _ _ _ _ => N2
  refine ⟨?_⟩
  refine calc_c C F2 N2 rfl (Nat.le_of_ble_eq_true rfl) (ns := behindOf ns) ?_ fun h4 tk4 t4 n4 news4 e4 hs4 F4 N4 => ?_
  · have := Octs.bytes (news := [(bA, listOf (List.toArray bs) k)]) (byteArr (behindOf ns)) t3
    rwa [octs_byteArr hbr] at this
  have N5 := news_sub N4 hs4
  clear F2 N2 N4
  k_steps
  rename Fr _ _ _ _ => F2
  rename News _ _ _ _ => N2
  refine ⟨sum_c C F2 N2 rfl (Nat.le_of_ble_eq_true rfl) (vs := [_, _, _, _]) (ns := [0, 0, 0, 0]) (.head _) (.cons _ _ (.cons _ _ (.cons _ _ (.cons _ _ .nil)))) (by decide) fun h6 tk6 t6 n6 e6 F6 N6 => ?_⟩
  rw [hrest] at e4
  rw [show Builtin.bitXor (sumN [0, 0, 0, 0]) 4294967295 = dueSum [0, 0, 0, 0] from by unfold dueSum; rfl] at e6
  generalize dueSum [0, 0, 0, 0] = Z at e4 e6
  subst e4 e6
  clear F2 N2 hrest
  k_steps
  rename Fr _ _ _ _ => F8
  rename News _ _ _ _ => N8
  rw [beq_self_eq_true]
  exact kn _ _ _ _ F8 N8
end
end
end
end
section
open PySem.SeqAt
section
variable {w : World} {s₁ : Shared} {mg mb : Str → Option Value} {mean : ExcName → Option Value} {l L fa : Addr} {cd : Value} {vs : List Value} {ns : List Int}
/-- the law's body, whole -/
theorem lawBody (H : LawAt w s₁ mg mb mean l vs ns) (HM : ∀ a : Int, 0 ≤ a → a ≤ (theRow ns).length → MathDue (theRow ns) a) (HD : MathDec) (HC : MathCrc) {s : Shared} {oC : Obj} {v₀ : Option Value} (hoC : oC.data = .cell v₀)
    (hP : At s₁ L (fun m news => news = [(L + 1, oC)] ∧ m (Str.ofString "script") = some (.ref l)) s) {Q : Flow → Shared → Prop}
    (kn : ∀ h tk m news, Fr s₁.heap L h m → News s₁.heap L h news → Q (.ret (.bool true)) { s₁ with heap := h, toks := tk }) :
    wpG (model PySem.Challenge.rw_ll0027_01.row.prog w) (callerA.deeper (envOfC (Str.ofString "law") lawS L fa cd)) (execs lawB (envOfC (Str.ofString "law") lawS L fa cd)) Q (fun _ _ => False) s := by
  show wpG _ _ (execs (lawSt 0 :: lawSt 1 :: lawSt 2 :: lawSt 3 :: lawSt 4 :: lawSt 5 :: lawSt 6 :: lawSt 7 :: lawSt 8 :: lawSt 9 :: lawSt 10 :: lawSt 11 :: lawSt 12 :: lawSt 13 :: lawSt 14 :: lawSt 15 :: lawSt 16 :: lawSt 17 :: lawSt 18 :: []) _) _ _ _
  refine execsG_cut _ (st0 H hP) fun s h => ?_
  refine execsG_cut _ (st1 H h) fun s h => ?_
  refine execsG_cut _ (st2 H h) fun s h => ?_
  refine execsG_cut _ (st3 H h) fun s h => ?_
  refine execsG_cut _ (st4 H h) fun s h => ?_
  refine execsG_cut _ (st5 H h) fun s h => ?_
  refine execsG_cut _ (st6 H HM hoC h) fun s h => ?_
  obtain ⟨h0, tk0, m0, news0, rfl, F0, N0, tA, oC2, v2, tvs, ts, k2, rfl, hoC2, hit, hsm, htl, hsc, hfi, hto⟩ := h
  refine execsG_cut _ (st7 H (ts := ts) ⟨h0, tk0, m0, _, rfl, F0, N0, tA, oC2, v2, tvs, k2, rfl, hoC2, hit, hsc, hfi, hto⟩) fun s h => ?_
  refine execsG_cut _ (st8 H hsm htl h) fun s h => ?_
  refine execsG_cut _ (st9 H h) fun s h => ?_
  refine execsG_cut _ (st10 H HD hsm htl h) fun s h => ?_
  refine execsG_cut _ (st11 H hsm htl h) fun s h => ?_
  refine execsG_cut _ (st12 H h) fun s h => ?_
  refine execsG_cut _ (st13 H h) fun s h => ?_
  refine execsG_cut _ (st14 H h) fun s h => ?_
  refine execsG_cut _ (st15 H HC h) fun s h => ?_
  refine execsG_cut _ (st16 H HC h) fun s h => ?_
  refine execsG_cut _ (st17 H h) fun s h => ?_
  exact execsG_cons (st18 H (HC.rest _ (plainOf_range ns)) h fun h tk m news F N => kn h tk m news F N)
end
end
section
open PySem.SeqAt
theorem offJ1 : True := by
  w_top off
  exact True.intro
set_option maxHeartbeats 8000000 in
theorem holds (HM : ∀ ns : List Int, ∀ a : Int, 0 ≤ a → a ≤ (theRow ns).length → MathDue (theRow ns) a) (HD : MathDec) (HC : MathCrc) : PySem.Challenge.rw_ll0027_01.Holds := by
  refine hd ?_
  k_fill
  intro w s₀ s₁ mg mb G Y fa o pm cd doc dV kV ho hd hcd hD hmg hg args vals as hpre hlay hrd hwl hlo
  have KX := kIn_of Y
  have X := (Ground.X G).1
  have V := (Ground.X G).2
  try w_nolog (first | (have GL := glob_more (Ground.glob G (by first | k_qdec | decide +kernel)) V) | (have GL := glob_more (Ground.glob G (by decide +kernel)) V))
  refine Ground.open G ?_
  intro T B D TE TW
  try (refine guard_noD D (by decide +kernel) ?_; clear D)
  obtain ⟨_, _, M⟩ := bmod_of_top T
  try (obtain ⟨_, _, he, B0⟩ := based_of_top T rfl hmg ho hd; have he' : cd = _ := he; subst he'; clear he)
  clear hmg
  wrow_args hpre hlay hrd hwl hlo
  refine enterG ?_
  w_top on
  refine codeG_mono ?_ (fun _ _ g => GoodW.toG g)
  have K0 := below_caller s₁.heap
  have he := Dflts.none hD rfl; subst he; have he := Dflts.noKw hD; subst he
  refine cellsG (by decide) ho (fd_plain hd) (Top.nolimit T) hcd rfl (kinds_of (by kinds_ok)) (by decide) fun h₁ tk₁ cells F N0 X0 => ?_
  cells_open X0
  clear hd
  rename IntsAre _ _ => hI
  rename Heap.IsList _ _ _ => hL
  refine wpG_mono (lawBody ⟨KX, T, K0, hL, hI, ?_⟩ (HM _) HD HC (by assumption) ⟨h₁, tk₁, _, _, rfl, F, N0, rfl, ?_⟩ (Q := fun f s' => GoodW _ _ _ _ _ (.ok (.ret (match f with | .ret v => v | _ => .none))) s') ?_) (fun _ _ q => q) fun _ _ e => e
  · omega
  · rfl
  · intro h tk m news F N
    dsimp only
    k_end
    wrow_close
end
end Mine
end
section
open PySem PySem.W PySem.Calls PyProof.Rows
set_option Elab.async false
namespace Mine
theorem and129 {r : Int} (h0 : 0 ≤ r) (h1 : r < 256) : Builtin.bitAnd r 129 = 0 ↔ (r < 128 ∧ r % 2 = 0) := by
  obtain ⟨n, rfl⟩ := Int.eq_ofNat_of_zero_le h0
  have : (129 : Int) = ((129 : Nat) : Int) := rfl
  rw [this, and_nat]
  have key : ∀ n < 256, (n &&& 129 = 0) ↔ (n < 128 ∧ n % 2 = 0) := by decide +kernel
  have := key n (by omega)
  omega
theorem and128 {r : Int} (h0 : 0 ≤ r) (h1 : r < 256) : Builtin.bitAnd r 128 = 0 ↔ r < 128 := by
  obtain ⟨n, rfl⟩ := Int.eq_ofNat_of_zero_le h0
  have : (128 : Int) = ((128 : Nat) : Int) := rfl
  rw [this, and_nat]
  have key : ∀ n < 256, (n &&& 128 = 0) ↔ (n < 128) := by decide +kernel
  have := key n (by omega)
  omega
theorem bitAnd_one {r : Int} (h0 : 0 ≤ r) : Builtin.bitAnd r 1 = r % 2 := by
  obtain ⟨n, rfl⟩ := Int.eq_ofNat_of_zero_le h0
  have : (1 : Int) = ((1 : Nat) : Int) := rfl
  rw [this, and_nat, Nat.and_one_is_mod]
  push_cast; rfl
noncomputable def unzz (v : Int) : Int := if v % 2 = 0 then v / 2 else -((v + 1) / 2)
theorem half (r : Int) : r.fdiv (2 ^ Int.toNat 1) = r / 2 := by
  show r.fdiv (2 ^ 1) = _
  rw [Int.fdiv_eq_ediv_of_nonneg _ (by decide)]; rfl
theorem unzz_xor {r : Int} (h0 : 0 ≤ r) : Builtin.bitXor (r.fdiv (2 ^ Int.toNat 1)) (-(Builtin.bitAnd r 1)) = unzz r := by
  rw [bitAnd_one h0, half]
  unfold unzz
  by_cases h : r % 2 = 0
  · rw [if_pos h, h]; exact bitXor_zero _
  · rw [if_neg h, show r % 2 = 1 by omega, xor_neg1]; omega
theorem or_add {res d : Int} {k : Nat} (h0 : 0 ≤ res) (h1 : res < 128 ^ k) (hd : 0 ≤ d) {e : Nat} (he : e = 7 * k) : Builtin.bitOr res (d * 2 ^ e) = res + 128 ^ k * d := by
  obtain ⟨r, rfl⟩ := Int.eq_ofNat_of_zero_le h0
  obtain ⟨d, rfl⟩ := Int.eq_ofNat_of_zero_le hd
  subst he
  have e1 : (2 : Nat) ^ (7 * k) = 128 ^ k := by rw [Nat.pow_mul]
  have e2 : ((d : Int) * 2 ^ (7 * k)) = ((d * 2 ^ (7 * k) : Nat) : Int) := by push_cast; rfl
  have h2 : r < 2 ^ (7 * k) := by rw [e1]; exact_mod_cast h1
  rw [e2, or_nat, Nat.mul_comm d, Nat.or_comm, ← Nat.two_pow_add_eq_or_of_lt h2, e1]
  push_cast; omega
noncomputable def valD : List Int → Int
  | [] => 0
  | d :: r => d % 128 + 128 * valD r
/-- the marked octets -/
noncomputable def Hi (l : List Int) : Prop := ∀ y ∈ l, 128 ≤ y ∧ y < 256
theorem valD_nonneg : ∀ l, 0 ≤ valD l
  | [] => Int.le_refl _
  | d :: r => by have := valD_nonneg r; unfold valD; omega
theorem at_drop {ns : List Int} {pos : Int} {b : Int} {r : List Int} (h0 : 0 ≤ pos) (h : ns.drop pos.toNat = b :: r) : ns[pos.toNat]? = some b ∧ ns.drop (pos + 1).toNat = r := by
  constructor
  · have := congrArg List.head? h
    rwa [List.head?_drop] at this
  · have := congrArg List.tail h
    rw [List.tail_drop] at this
    rw [show (pos + 1).toNat = pos.toNat + 1 by omega]; exact this
theorem decL_ok {ns : List Int} {x : Int} {post : List Int} (hx : 0 ≤ x ∧ x < 128) : ∀ (hi : List Int) (n k : Nat) (res pos : Int), ns.drop pos.toNat = hi ++ x :: post → Hi hi → hi.length < n → n + k = 10 → 0 ≤ pos → 0 ≤ res → res < 128 ^ k →
    decL ns n res pos = .ok (unzz (res + 128 ^ k * valD (hi ++ [x]))) (pos + hi.length + 1)
  | [], n + 1, k, res, pos, hd, _, _, hk, h0, hr0, hr1 => by
    obtain ⟨e1, _⟩ := at_drop h0 hd
    unfold decL
    rw [e1]
    dsimp only
    rw [if_pos ((and128 hx.1 (by omega)).mpr hx.2), bitAnd_m7, or_add hr0 hr1 (by omega) (by omega)]
    have hp : (0 : Int) ≤ 128 ^ k * (x % 128) := Int.mul_nonneg (Int.pow_nonneg (by decide)) (by omega)
    rw [unzz_xor (by omega)]
    simp [valD]
  | b :: hi, n + 1, k, res, pos, hd, hh, hl, hk, h0, hr0, hr1 => by
    obtain ⟨e1, e2⟩ := at_drop h0 hd
    have hb := hh b (.head _)
    unfold decL
    rw [e1]
    dsimp only
    rw [if_neg (fun q => by have := (and128 (by omega) hb.2).mp q; omega), bitAnd_m7, or_add hr0 hr1 (by omega) (by omega)]
    have hp : (0 : Int) ≤ 128 ^ k * (b % 128) := Int.mul_nonneg (Int.pow_nonneg (by decide)) (by omega)
    have hp2 : (128 : Int) ^ k * (b % 128) ≤ 128 ^ k * 127 := Int.mul_le_mul_of_nonneg_left (by omega) (Int.pow_nonneg (by decide))
    have hs : (128 : Int) ^ (k + 1) = 128 ^ k * 128 := Int.pow_succ ..
    rw [decL_ok hx hi n (k + 1) _ _ e2 (fun y hy => hh y (.tail _ hy)) (by simpa using hl) (by omega) (by omega) (by omega) (by omega)]
    congr 1
    · congr 1
      show _ = res + 128 ^ k * (b % 128 + 128 * valD (hi ++ [x]))
      rw [hs, Int.mul_add, Int.mul_assoc]; omega
    · simp only [List.length_cons]; omega
theorem decL_no {ns : List Int} : ∀ (n : Nat) (res pos : Int), n ≤ 10 → 0 ≤ pos → Hi ((ns.drop pos.toNat).take n) → decL ns n res pos = if ((ns.drop pos.toNat).take n).length = n then .val else .idx
  | 0, _, _, _, _, _ => by simp [decL]
  | n + 1, res, pos, hn, h0, hh => by
    unfold decL
    cases e : ns.drop pos.toNat with
    | nil =>
      have : ns[pos.toNat]? = none := List.getElem?_eq_none (List.drop_eq_nil_iff.mp e)
      rw [this]
      simp
    | cons b r =>
      obtain ⟨e1, e2⟩ := at_drop h0 e
      rw [e, List.take_succ_cons] at hh
      have hb := hh b (.head _)
      rw [e1]
      dsimp only
      rw [if_neg (fun q => by have := (and128 (by omega) hb.2).mp q; omega)]
      rw [decL_no n _ (pos + 1) (by omega) (by omega) (by rw [e2]; exact fun y hy => hh y (.tail _ hy)), e2]
      simp
theorem decS_ok {ns : List Int} {x : Int} {post : List Int} (hx : 0 ≤ x ∧ x < 128) {hi : List Int} {pos : Int} (hd : ns.drop pos.toNat = hi ++ x :: post) (hh : Hi hi) (hl : hi.length < 10) (h0 : 0 ≤ pos) : decS ns pos = .ok (unzz (valD (hi ++ [x]))) (pos + hi.length + 1) := by
  unfold decS
  cases hi with
  | nil =>
    obtain ⟨e1, _⟩ := at_drop h0 hd
    rw [e1]
    have ev : valD ([] ++ [x]) = x := by simp [valD]; omega
    rw [ev]
    dsimp only
    have h2 : x.fdiv (2 ^ Int.toNat 1) = x / 2 := half x
    by_cases h : x % 2 = 0
    · rw [if_pos ((and129 hx.1 (by omega)).mpr ⟨hx.2, h⟩), h2]
      simp [unzz, h]
    · rw [if_neg (fun q => h ((and129 hx.1 (by omega)).mp q).2), if_pos ((and128 hx.1 (by omega)).mpr hx.2), h2]
      rw [show Builtin.bitNot 0 = -1 from rfl, xor_neg1, unzz, if_neg h]
      congr 1
      · omega
      · simp
  | cons b hi =>
    obtain ⟨e1, e2⟩ := at_drop h0 hd
    have hb := hh b (.head _)
    rw [e1]
    dsimp only
    rw [if_neg (fun q => by have := ((and129 (by omega) hb.2).mp q).1; omega), if_neg (fun q => by have := (and128 (by omega) hb.2).mp q; omega), bitAnd_m7]
    rw [decL_ok hx hi 9 1 _ _ e2 (fun y hy => hh y (.tail _ hy)) (by simp only [List.length_cons] at hl; omega) rfl (by omega) (by omega) (by omega)]
    congr 1
    simp only [List.length_cons]; omega
theorem decS_no {ns : List Int} {pos : Int} (h0 : 0 ≤ pos) (hh : Hi (win ns pos)) : decS ns pos = if (win ns pos).length = 10 then .val else .idx := by
  unfold decS
  unfold win at hh ⊢
  cases e : ns.drop pos.toNat with
  | nil =>
    have : ns[pos.toNat]? = none := List.getElem?_eq_none (List.drop_eq_nil_iff.mp e)
    rw [this]
    simp
  | cons b r =>
    obtain ⟨e1, e2⟩ := at_drop h0 e
    rw [e, List.take_succ_cons] at hh
    have hb := hh b (.head _)
    rw [e1]
    dsimp only
    rw [if_neg (fun q => by have := ((and129 (by omega) hb.2).mp q).1; omega), if_neg (fun q => by have := (and128 (by omega) hb.2).mp q; omega)]
    rw [decL_no 9 _ (pos + 1) (by omega) (by omega) (by rw [e2]; exact fun y hy => hh y (.tail _ hy)), e2]
    simp
end Mine
end
section
open PySem PySem.W PySem.Calls PyProof.Rows
set_option Elab.async false
namespace Mine
theorem valD_app : ∀ (l r : List Int), valD (l ++ r) = valD l + 128 ^ l.length * valD r
  | [], r => by simp [valD]
  | d :: l, r => by
    show d % 128 + 128 * valD (l ++ r) = d % 128 + 128 * valD l + 128 ^ (l.length + 1) * valD r
    rw [valD_app l r, Int.pow_succ, Int.mul_add, Int.mul_comm (128 ^ l.length) 128, Int.mul_assoc]; omega
theorem valD_lt : ∀ l, valD l < 128 ^ l.length
  | [] => by simp [valD]
  | d :: l => by
    have := valD_lt l
    show d % 128 + 128 * valD l < 128 ^ (l.length + 1)
    rw [Int.pow_succ]; omega
theorem revVal_rev : ∀ l, revVal l.reverse = valD l
  | [] => rfl
  | d :: l => by
    rw [List.reverse_cons, revVal_snoc, revVal_rev l, Int.fmod_eq_emod_of_nonneg _ (by decide)]
    show 128 * valD l + d % 128 = d % 128 + 128 * valD l
    omega
theorem hi_nil : Hi [] := fun y hy => by cases hy
theorem snoc_of {l : List Int} (h : l ≠ []) : ∃ hi y, l = hi ++ [y] := by
  rcases List.eq_nil_or_concat l with e | ⟨hi, y, e⟩
  · exact absurd e h
  · exact ⟨hi, y, by rw [e]; first | rfl | exact List.concat_eq_append⟩
/-- what is read of a row's window -/
theorem dig_form : ∀ l : List Int, (∀ y ∈ l, 0 ≤ y ∧ y < 256) → (∃ hi x post, l = hi ++ x :: post ∧ dig l = hi ++ [x] ∧ Hi hi ∧ 0 ≤ x ∧ x < 128) ∨ (dig l = l ∧ Hi l)
  | [], _ => .inr ⟨rfl, hi_nil⟩
  | o :: r, h => by
    have ho := h o (.head _)
    unfold dig
    by_cases h1 : o < 128
    · rw [if_pos h1]
      exact .inl ⟨[], o, r, rfl, rfl, hi_nil, ho.1, h1⟩
    · rw [if_neg h1]
      have hp : ∀ l, Hi l → Hi (o :: l) := fun l hl y hy => by
        rcases List.mem_cons.mp hy with rfl | hy
        · exact ⟨by omega, ho.2⟩
        · exact hl y hy
      rcases dig_form r fun y hy => h y (.tail _ hy) with ⟨hi, x, post, e1, e2, e3, e4⟩ | ⟨e1, e2⟩
      · exact .inl ⟨o :: hi, x, post, by rw [e1]; rfl, by rw [e2]; rfl, hp _ e3, e4⟩
      · exact .inr ⟨by rw [e1], hp _ e2⟩
theorem toI_cons (a : Nat) (l : List Nat) : toI (a :: l) = (a : Int) :: toI l := rfl
theorem enc_val {x : Int} (hx0 : 0 ≤ x) (hx1 : x < 128) : ∀ hi : List Int, Hi hi → (hi = [] ∨ x ≠ 0) → toI (encNat (valD (hi ++ [x])).toNat) = hi ++ [x]
  | [], _, _ => by
    have ev : valD ([] ++ [x]) = x := by simp [valD]; omega
    rw [ev, enc1 (by omega)]
    simp [toI]; omega
  | b :: hi, hh, h0 => by
    have hx : x ≠ 0 := h0.resolve_left (by simp)
    have hb := hh b (.head _)
    have ih := enc_val hx0 hx1 hi (fun y hy => hh y (.tail _ hy)) (.inr hx)
    have e : valD (b :: hi ++ [x]) = b % 128 + 128 * valD (hi ++ [x]) := rfl
    have hp : 1 ≤ valD (hi ++ [x]) := by
      have h1 := valD_nonneg (hi ++ [x])
      have h2 : valD (hi ++ [x]) ≠ 0 := by
        intro q
        rw [valD_app] at q
        have n1 := valD_nonneg hi
        have n2 : (0 : Int) < 128 ^ hi.length := Int.pow_pos (by decide)
        have n3 : valD [x] = x := by simp [valD]; omega
        rw [n3] at q
        have n4 : (1 : Int) * x ≤ 128 ^ hi.length * x := Int.mul_le_mul_of_nonneg_right (by omega) hx0
        omega
      omega
    rw [e, encS (by omega), toI_cons, show (b % 128 + 128 * valD (hi ++ [x])).toNat / 128 = (valD (hi ++ [x])).toNat by omega, ih]
    rw [show ((128 + (b % 128 + 128 * valD (hi ++ [x])).toNat % 128 : Nat) : Int) = b by omega]; rfl
theorem last_get (hi : List Int) (x : Int) : (hi ++ [x]).getD (-1 + ((hi ++ [x]).length : Int)).toNat 0 = x := by
  rw [List.length_append, show (-1 + ((hi.length + [x].length : Nat) : Int)).toNat = hi.length by simp only [List.length_cons, List.length_nil]; omega]
  simp
theorem strip_eq : ∀ (n : Nat) (hi : List Int) (x : Int), Hi hi → 0 ≤ x → x < 128 → hi.length ≤ n → strip n (hi ++ [x]) = toI (encNat (valD (hi ++ [x])).toNat)
  | n, hi, x, hh, h0, h1, hn => by
    by_cases hs : hi = [] ∨ x ≠ 0
    · rw [enc_val h0 h1 hi hh hs]
      cases n with
      | zero => rfl
      | succ n =>
        rw [strip, if_neg]
        rintro ⟨q1, q2⟩
        rw [last_get] at q2
        rcases hs with rfl | hs
        · simp at q1
        · exact hs q2
    · have hx : x = 0 := by
        by_cases h : x = 0
        · exact h
        · exact absurd (.inr h) hs
      have hne : hi ≠ [] := fun q => hs (.inl q)
      subst hx
      obtain ⟨hi', y, rfl⟩ : ∃ hi' y, hi = hi' ++ [y] := snoc_of hne
      have hy := hh y (by simp)
      obtain ⟨n, rfl⟩ : ∃ j, n = j + 1 := ⟨n - 1, by simp at hn; omega⟩
      rw [strip, if_pos ⟨by simp, last_get _ _⟩]
      have e1 : (hi' ++ [y] ++ [0]).take ((hi' ++ [y] ++ [0]).length - 2) = hi' := by simp
      have e2 : (hi' ++ [y] ++ [(0 : Int)]).getD (-2 + ((hi' ++ [y] ++ [(0 : Int)]).length : Int)).toNat 0 = y := by
        rw [show (-2 + ((hi' ++ [y] ++ [(0 : Int)]).length : Int)).toNat = hi'.length by simp; omega]
        simp
      rw [e1, e2, strip_eq n hi' (y - 128) (fun z hz => hh z (by simp [hz])) (by omega) (by omega) (by simp at hn; omega)]
      have e3 : valD (hi' ++ [y] ++ [0]) = valD (hi' ++ [y - 128]) := by
        rw [valD_app, valD_app, valD_app]
        simp [valD]
      rw [e3]
theorem unzz_zz {V : Int} (h0 : 0 ≤ V) (h1 : V < 18446744073709551616) : small (unzz V) ∧ (if 0 ≤ unzz V then 2 * unzz V else -2 * unzz V - 1) = V := by
  unfold small unzz
  constructor
  · constructor <;> split <;> omega
  · split <;> split <;> omega
theorem enc_pos (z : Nat) : 1 ≤ (encNat z).length := by
  by_cases h : z ≤ 127
  · rw [enc1 h]; exact Nat.le_refl _
  · rw [encS h]; exact Nat.succ_le_succ (Nat.zero_le _)
theorem enc_len_eq {z k : Nat} (h1 : z < 128 ^ (k + 1)) (h2 : k = 0 ∨ 128 ^ k ≤ z) : (encNat z).length = k + 1 := by
  refine Nat.le_antisymm (enc_len k h1) ?_
  cases k with
  | zero => exact enc_pos z
  | succ k => exact enc_len2 (k + 1) (h2.resolve_left (by simp)) (Nat.succ_le_succ (Nat.zero_le _))
theorem sz_step {z k M : Nat} {N n rest : Int} (e : N = (M : Int)) (hn : n = ((k + 1 : Nat) : Int)) (hM : M + 1 = 128 ^ (k + 1)) (lo : k = 0 ∨ 128 ^ k ≤ z) (up : 128 ^ (k + 1) ≤ z → rest = ((encNat z).length : Int)) : (if (z : Int) ≤ N then n else rest) = ((encNat z).length : Int) := by
  subst e
  by_cases h : (z : Int) ≤ (M : Int)
  · rw [if_pos h, hn, enc_len_eq (hM ▸ Nat.lt_succ_of_le (Int.ofNat_le.mp h)) lo]
  · rw [if_neg h]; exact up (hM ▸ Nat.lt_of_not_le fun q => h (Int.ofNat_le.mpr q))
theorem szZ_enc (z : Nat) (h : z < 18446744073709551616) : szZ (z : Int) = ((encNat z).length : Int) := by
  unfold szZ
  refine sz_step (M := 127) (k := 0) rfl rfl rfl (.inl rfl) fun l1 => ?_
  refine sz_step (M := 16383) (k := 1) rfl rfl rfl (.inr l1) fun l2 => ?_
  refine sz_step (M := 2097151) (k := 2) rfl rfl rfl (.inr l2) fun l3 => ?_
  refine sz_step (M := 268435455) (k := 3) rfl rfl rfl (.inr l3) fun l4 => ?_
  refine sz_step (M := 34359738367) (k := 4) rfl rfl rfl (.inr l4) fun l5 => ?_
  refine sz_step (M := 4398046511103) (k := 5) rfl rfl rfl (.inr l5) fun l6 => ?_
  refine sz_step (M := 562949953421311) (k := 6) rfl rfl rfl (.inr l6) fun l7 => ?_
  refine sz_step (M := 72057594037927935) (k := 7) rfl rfl rfl (.inr l7) fun l8 => ?_
  refine sz_step (M := 9223372036854775807) (k := 8) rfl rfl rfl (.inr l8) fun l9 => ?_
  rw [enc_len_eq (k := 9) (Nat.lt_trans h (by decide)) (.inr l9)]; rfl
theorem dueD_no {dg : List Int} (hh : Hi dg) (a : Int) : dueD dg a = if (dg.length : Int) = 10 then .long else .stop := by
  unfold dueD
  rw [if_pos]
  by_cases h : dg = []
  · exact .inl h
  · obtain ⟨hi, y, rfl⟩ : ∃ hi y, dg = hi ++ [y] := snoc_of h
    rw [last_get]
    exact .inr (hh y (by simp)).1
theorem dueD_ok {hi : List Int} {x : Int} (hx : x < 128) (a : Int) : dueD (hi ++ [x]) a = if 18446744073709551616 ≤ valD (hi ++ [x]) then .aside else .pair (unzz (valD (hi ++ [x]))) (a + (hi.length + 1 : Nat)) := by
  unfold dueD
  rw [last_get, if_neg (by rintro (h | h); · simp at h
                           · omega), revVal_rev]
  have e : (if (valD (hi ++ [x])).fmod 2 = 0 then (valD (hi ++ [x])).fdiv 2 else -((valD (hi ++ [x]) + 1).fdiv 2)) = unzz (valD (hi ++ [x])) := by
    rw [Int.fmod_eq_emod_of_nonneg _ (by decide), Int.fdiv_eq_ediv_of_nonneg _ (by decide), Int.fdiv_eq_ediv_of_nonneg _ (by decide)]; rfl
  rw [e, List.length_append]; rfl
theorem math_due {row : List Int} (hr : ∀ n ∈ row, 0 ≤ n ∧ n < 256) {a : Int} (h0 : 0 ≤ a) (ha : a ≤ row.length) : MathDue row a := by
  have hw : ∀ y ∈ win row a, 0 ≤ y ∧ y < 256 := fun y hy => hr y (List.mem_of_mem_drop (List.mem_of_mem_take hy))
  rcases dig_form _ hw with ⟨hi, x, post, e1, e2, hh, x0, x1⟩ | ⟨e1, hh⟩
  · have hl : hi.length < 10 := by
      have := congrArg List.length e1
      unfold win at this
      simp only [List.length_take, List.length_append, List.length_cons] at this
      omega
    have hd : row.drop a.toNat = hi ++ x :: (post ++ (row.drop a.toNat).drop 10) := by
      have h := List.take_append_drop 10 (row.drop a.toNat)
      rw [show (row.drop a.toNat).take 10 = win row a from rfl, e1] at h
      rw [List.append_assoc] at h
      exact h.symm
    have hdl : a + hi.length + 1 ≤ row.length := by
      have := congrArg List.length hd
      simp only [List.length_drop, List.length_append, List.length_cons] at this
      omega
    rw [show (MathDue row a) = (MathDue row a) from rfl]
    have hD := dueD_ok (hi := hi) x1 a
    refine ⟨fun hna => ?_, fun v e hve => ?_⟩
    · rw [e2, hD] at hna ⊢
      rw [decS_ok ⟨x0, x1⟩ hd hh hl h0]
      by_cases hb : 18446744073709551616 ≤ valD (hi ++ [x])
      · rw [if_pos hb] at hna; exact absurd rfl hna
      · rw [if_neg hb]
        show Due.pair _ _ = _
        congr 1
        push_cast; omega
    · rw [e2, hD] at hve
      by_cases hb : 18446744073709551616 ≤ valD (hi ++ [x])
      · rw [if_pos hb] at hve; cases hve
      · rw [if_neg hb] at hve
        have hV := valD_nonneg (hi ++ [x])
        obtain ⟨q1, q2⟩ := unzz_zz hV (by omega)
        injection hve with hv he
        subst hv
        subst he
        have hz : (((valD (hi ++ [x])).toNat : Nat) : Int) = valD (hi ++ [x]) := by omega
        refine ⟨q1.1, q1.2, by omega, by omega, by omega, (valD (hi ++ [x])).toNat, by rw [q2]; exact hz, ?_, ?_, enc_len 9 (by omega)⟩
        · rw [hd, show (a + ((hi.length + 1 : Nat) : Int) - a).toNat = (hi ++ [x]).length by simp; omega]
          rw [show hi ++ x :: (post ++ (row.drop a.toNat).drop 10) = (hi ++ [x]) ++ (post ++ (row.drop a.toNat).drop 10) by simp, List.take_left]
          exact strip_eq 10 hi x hh x0 x1 (by omega)
        · have hzz : zz (unzz (valD (hi ++ [x]))) = (((valD (hi ++ [x])).toNat : Nat) : Int) := by
            show Builtin.bitXor _ _ = _
            rw [zz_val q1.1 q1.2, q2, hz]
          rw [hzz]
          exact szZ_enc _ (by omega)
  · have hs : toDue (decS row a) = dueD (dig (win row a)) a := by
      rw [e1, dueD_no hh, decS_no h0 hh]
      by_cases h : (win row a).length = 10
      · rw [if_pos h, if_pos (by omega)]; rfl
      · rw [if_neg h, if_neg (by omega)]; rfl
    refine ⟨fun _ => hs, fun v e hve => ?_⟩
    rw [e1, dueD_no hh] at hve
    split at hve <;> cases hve
theorem enc_form (z : Nat) : ∃ hi x, toI (encNat z) = hi ++ [x] ∧ Hi hi ∧ 0 ≤ x ∧ x < 128 ∧ valD (hi ++ [x]) = z := by
  induction z using Nat.strongRecOn with
  | ind z ih =>
    by_cases h : z ≤ 127
    · rw [enc1 h]
      refine ⟨[], z, rfl, hi_nil, by omega, by omega, ?_⟩
      show (z : Int) % 128 + 128 * 0 = z
      omega
    · obtain ⟨hi, x, e, hh, x0, x1, hv⟩ := ih (z / 128) (by omega)
      rw [encS h, toI_cons, e]
      refine ⟨((128 + z % 128 : Nat) : Int) :: hi, x, rfl, fun y hy => ?_, x0, x1, ?_⟩
      · rcases List.mem_cons.mp hy with rfl | hy
        · omega
        · exact hh y hy
      · show ((128 + z % 128 : Nat) : Int) % 128 + 128 * valD (hi ++ [x]) = z
        rw [hv]; omega
theorem math_dec : MathDec := by
  intro pre post v hv _
  obtain ⟨hi, x, e, hh, x0, x1, hV⟩ := enc_form (zOf v)
  have hlen := enc_small hv
  have hl : (toI (encNat (zOf v))).length = (encNat (zOf v)).length := by simp [toI]
  have hl2 := congrArg List.length e
  simp only [List.length_append, List.length_cons, List.length_nil] at hl2
  rw [decS_ok (hi := hi) (x := x) (post := post) ⟨x0, x1⟩ ?_ hh (by omega) (by omega)]
  · rw [hV, zOf_eq]
    congr 1
    · obtain ⟨h1, h2⟩ := hv
      unfold unzz
      split <;> split <;> omega
    · omega
  · rw [e]; simp
end Mine
end
section
open PySem PySem.W PySem.Calls PyProof.Rows
set_option Elab.async false
namespace Mine
theorem bitN_xor (o₁ o₂ r₁ r₂ : Nat) : ∀ n, bitN (o₁ ^^^ o₂) (r₁ ^^^ r₂) n = bitN o₁ r₁ n ^^^ bitN o₂ r₂ n
  | 0 => rfl
  | n + 1 => by
    unfold bitN
    simp only
    rw [bitN_xor o₁ o₂ r₁ r₂ n]
    generalize bitN o₁ r₁ n = p
    generalize bitN o₂ r₂ n = q
    have e1 : (o₁ ^^^ o₂) / 2 ^ n = o₁ / 2 ^ n ^^^ o₂ / 2 ^ n := by rw [← Nat.shiftRight_eq_div_pow, ← Nat.shiftRight_eq_div_pow, ← Nat.shiftRight_eq_div_pow, Nat.shiftRight_xor_distrib]
    rw [e1, Nat.xor_div_two]
    generalize o₁ / 2 ^ n = a
    generalize o₂ / 2 ^ n = b
    have e2 : (p ^^^ q) ^^^ (a ^^^ b) = (p ^^^ a) ^^^ (q ^^^ b) := by
      rw [Nat.xor_assoc, Nat.xor_assoc, ← Nat.xor_assoc q a b, ← Nat.xor_assoc a q b, Nat.xor_comm q a]
    rw [e2]
    generalize p ^^^ a = x
    generalize q ^^^ b = y
    have e3 : 2197175160 * ((x ^^^ y) % 2) = (2197175160 * (x % 2)) ^^^ (2197175160 * (y % 2)) := by
      have m2 : (x ^^^ y) % 2 = (x % 2) ^^^ (y % 2) := Nat.xor_mod_two_pow (n := 1)
      rw [m2]
      rcases Nat.mod_two_eq_zero_or_one x with h | h <;> rcases Nat.mod_two_eq_zero_or_one y with h' | h' <;> rw [h, h'] <;> rfl
    rw [e3]
    generalize 2197175160 * (x % 2) = u
    generalize 2197175160 * (y % 2) = v
    generalize p / 2 = p'
    generalize q / 2 = q'
    rw [Nat.xor_assoc, Nat.xor_assoc, ← Nat.xor_assoc q' u v, ← Nat.xor_assoc u q' v, Nat.xor_comm q' u]
theorem bitN_self (x : Nat) : ∀ n, bitN x x n = x / 2 ^ n
  | 0 => by simp [bitN]
  | n + 1 => by
    unfold bitN
    simp only
    rw [bitN_self x n, Nat.xor_self]
    simp [Nat.pow_succ, Nat.div_div_eq_div_mul]
theorem bitN_mod (o r k : Nat) : ∀ n, n ≤ k → bitN (o % 2 ^ k) r n = bitN o r n
  | 0, _ => rfl
  | n + 1, h => by
    unfold bitN
    simp only
    rw [bitN_mod o r k n (by omega)]
    generalize bitN o r n = q
    have e : (o % 2 ^ k) / 2 ^ n % 2 = o / 2 ^ n % 2 := by
      have hk : 2 ^ k = 2 ^ n * 2 * 2 ^ (k - n - 1) := by
        rw [← Nat.pow_succ, ← Nat.pow_add]; congr 1; omega
      have h2 : (2 : Nat) ∣ 2 ^ (k - n) := ⟨2 ^ (k - n - 1), by rw [← Nat.pow_succ']; congr 1; omega⟩
      have h3 : o % 2 ^ k / 2 ^ n = o / 2 ^ n % 2 ^ (k - n) := by
        rw [show 2 ^ k = 2 ^ n * 2 ^ (k - n) by rw [← Nat.pow_add]; congr 1; omega, Nat.mod_mul_right_div_self]
      rw [h3, Nat.mod_mod_of_dvd _ h2]
    have m1 : (q ^^^ (o % 2 ^ k) / 2 ^ n) % 2 = (q ^^^ o / 2 ^ n) % 2 := by
      have a1 : ∀ u v : Nat, (u ^^^ v) % 2 = (u % 2) ^^^ (v % 2) := fun u v => Nat.xor_mod_two_pow (n := 1)
      rw [a1, e, ← a1]
    rw [m1]
theorem bitN_add (o r m : Nat) : ∀ n, bitN o r (m + n) = bitN (o / 2 ^ m) (bitN o r m) n
  | 0 => rfl
  | n + 1 => by
    show bitN o r (m + n + 1) = _
    unfold bitN
    simp only
    rw [bitN_add o r m n, Nat.pow_add, Nat.div_div_eq_div_mul]
theorem bitN_split (o r n : Nat) : bitN o r n = bitN (o ^^^ r) 0 n ^^^ r / 2 ^ n := by
  rw [← bitN_self r n, ← bitN_xor, Nat.xor_assoc, Nat.xor_self, Nat.xor_zero, Nat.zero_xor]
theorem bitN_lt (o r : Nat) (h : r < 2 ^ 32) : ∀ n, bitN o r n < 2 ^ 32
  | 0 => h
  | n + 1 => by
    unfold bitN
    exact bitStep_lt o _ n (bitN_lt o r h n)
theorem tab_get (k : Nat) (h : k < 256) : tab.getD k 0 = ((bitN k 0 8 : Nat) : Int) := by
  unfold tab
  rw [List.getD_eq_getElem?_getD, List.getElem?_map, List.getElem?_range h]; rfl
theorem updStep_eq (c b : Int) (hc0 : 0 ≤ c) (hc : c < 2 ^ 32) (hb0 : 0 ≤ b) (hb : b < 256) : updStep c b = bitsN b c 8 := by
  obtain ⟨c, rfl⟩ := Int.eq_ofNat_of_zero_le hc0
  obtain ⟨b, rfl⟩ := Int.eq_ofNat_of_zero_le hb0
  rw [bitsN_nat]
  unfold updStep
  rw [xor_nat, bitAnd_m8, shr_nat]
  have e1 : (((c ^^^ b : Nat) : Int) % 256).toNat = (c ^^^ b) % 256 := by omega
  have e0 : Int.toNat 8 = 8 := rfl
  rw [e1, tab_get _ (Nat.mod_lt _ (by decide)), e0, xor_nat, bitAnd_m32, bitN_split b c 8]
  have e2 := bitN_mod (c ^^^ b) 0 8 8 (Nat.le_refl _)
  rw [show (2 : Nat) ^ 8 = 256 from rfl] at e2 ⊢
  rw [e2, Nat.xor_comm c b]
  have hlt := bitN_lt b c (by omega) 8
  rw [bitN_split b c 8] at hlt
  rw [show (2 : Nat) ^ 8 = 256 from rfl] at hlt
  omega
theorem foldl_upd : ∀ (ns : List Int) (c : Int), (∀ n ∈ ns, 0 ≤ n ∧ n < 256) → 0 ≤ c → c < 2 ^ 32 → ns.foldl updStep c = ns.foldl (fun r o => bitsN o r 8) c
  | [], _, _, _, _ => rfl
  | n :: ns, c, h, h0, h1 => by
    have hn := h n (.head _)
    rw [List.foldl_cons, List.foldl_cons, updStep_eq c n h0 h1 hn.1 hn.2]
    have := bitsN_range hn.1 h0 h1 8
    exact foldl_upd ns _ (fun x hx => h x (.tail _ hx)) this.1 this.2
theorem xorM_M (c : Int) (h0 : 0 ≤ c) : Builtin.bitXor (Builtin.bitXor c 4294967295) 4294967295 = c := by
  obtain ⟨c, rfl⟩ := Int.eq_ofNat_of_zero_le h0
  have : (4294967295 : Int) = ((4294967295 : Nat) : Int) := rfl
  rw [this, xor_nat, xor_nat, Nat.xor_assoc, Nat.xor_self, Nat.xor_zero]
theorem updN_eq {c : Int} {ns : List Int} (hr : ∀ n ∈ ns, 0 ≤ n ∧ n < 256) (h0 : 0 ≤ c) (h1 : c < 2 ^ 32) : updN c ns = Builtin.bitXor (ns.foldl (fun r o => bitsN o r 8) (Builtin.bitXor c 4294967295)) 4294967295 := by
  unfold updN
  rw [foldl_upd ns _ hr (xor_range h0 h1).1 (xor_range h0 h1).2]
theorem dueSum_lt {ns : List Int} (hr : ∀ n ∈ ns, 0 ≤ n ∧ n < 256) : 0 ≤ dueSum ns ∧ dueSum ns < 2 ^ 32 := xor_range (sumN_range hr).1 (sumN_range hr).2
theorem crcN_due {ns : List Int} (hr : ∀ n ∈ ns, 0 ≤ n ∧ n < 256) : crcN ns = dueSum ns := by
  unfold crcN
  rw [updN_eq hr (by decide) (by decide)]
  have e : Builtin.bitXor 0 4294967295 = 4294967295 := by decide
  rw [e]
  show Builtin.bitAnd (dueSum ns) 4294967295 = dueSum ns
  have := dueSum_lt hr
  rw [bitAnd_m32]; omega
theorem quad (x r : Nat) : (((List.range 4).map fun k : Nat => (((x : Nat) : Int).fdiv (256 ^ k)).fmod 256).foldl (fun r o => bitsN o r 8) ((r : Nat) : Int)) = ((bitN x r 32 : Nat) : Int) := by
  have e : ∀ k : Nat, (((x : Nat) : Int).fdiv (256 ^ k)).fmod 256 = ((x / 256 ^ k % 256 : Nat) : Int) := by
    intro k
    have p : (256 : Int) ^ k = ((256 ^ k : Nat) : Int) := (Int.natCast_pow 256 k).symm
    rw [Int.fdiv_eq_ediv_of_nonneg _ (Int.pow_nonneg (by decide)), Int.fmod_eq_emod_of_nonneg _ (by decide), p]
    rfl
  have em : ∀ y r : Nat, bitN (y % 256) r 8 = bitN y r 8 := fun y r => bitN_mod y r 8 8 (Nat.le_refl _)
  simp only [e]
  show bitsN _ (bitsN _ (bitsN _ (bitsN _ _ 8) 8) 8) 8 = _
  simp only [bitsN_nat, em]
  have a1 := bitN_add x r 8 24
  have a2 := bitN_add (x / 2 ^ 8) (bitN x r 8) 8 16
  have a3 := bitN_add (x / 2 ^ 8 / 2 ^ 8) (bitN (x / 2 ^ 8) (bitN x r 8) 8) 8 8
  rw [show 8 + 24 = 32 from rfl] at a1
  rw [show 8 + 16 = 24 from rfl] at a2
  rw [show 8 + 8 = 16 from rfl] at a3
  rw [a1, a2, a3]
  simp only [Nat.div_div_eq_div_mul, Nat.pow_zero, Nat.div_one]
theorem math_crc : MathCrc where
  crc ns hr := crcN_due hr
  upd a b ha hb := by
    have h := dueSum_lt ha
    rw [crcN_due ha, updN_eq hb h.1 h.2]
    unfold dueSum
    rw [xorM_M _ (sumN_range ha).1]
    unfold sumN
    rw [List.foldl_append]
  rest ns hr := by
    have h := dueSum_lt hr
    have hs := sumN_range hr
    rw [crcN_due (by
      intro n hn
      rcases List.mem_append.mp hn with hn | hn
      · exact hr n hn
      · obtain ⟨k, _, rfl⟩ := List.mem_map.mp hn
        exact ⟨Int.fmod_nonneg_of_pos _ (by decide), Int.fmod_lt_of_pos _ (by decide)⟩)]
    have hx : ∃ s x : Nat, sumN ns = (s : Int) ∧ dueSum ns = (x : Int) ∧ x < 2 ^ 32 ∧ s < 2 ^ 32 ∧ x ^^^ s = 4294967295 := by
      obtain ⟨s, hs'⟩ := Int.eq_ofNat_of_zero_le hs.1
      obtain ⟨x, hx'⟩ := Int.eq_ofNat_of_zero_le h.1
      refine ⟨s, x, hs', hx', by omega, by omega, ?_⟩
      have e : dueSum ns = Builtin.bitXor (sumN ns) 4294967295 := rfl
      rw [hs', hx', show (4294967295 : Int) = ((4294967295 : Nat) : Int) from rfl, xor_nat] at e
      have e' : x = s ^^^ 4294967295 := by omega
      rw [e', Nat.xor_assoc, Nat.xor_comm 4294967295 s, ← Nat.xor_assoc, Nat.xor_self, Nat.zero_xor]
    obtain ⟨s, x, hs', hx', hx1, hs1, hxs⟩ := hx
    rw [hx']
    unfold dueSum
    refine congrArg (fun r => Builtin.bitXor r 4294967295) ?_
    unfold sumN at hs' ⊢
    rw [List.foldl_append, hs', quad x s, bitN_split, hxs, Nat.div_eq_of_lt hs1, Nat.xor_zero]
    have q := quad 0 4294967295
    rw [bitN_split 0, Nat.zero_xor, show 4294967295 / 2 ^ 32 = 0 from rfl, Nat.xor_zero] at q
    have e4 : ((List.range 4).map fun k : Nat => (((0 : Nat) : Int).fdiv (256 ^ k)).fmod 256) = [0, 0, 0, 0] := by decide
    rw [e4] at q
    exact q.symm
end Mine
end
set_option maxRecDepth 100000 in
set_option maxHeartbeats 8000000 in
theorem PySem.Challenge.cw_ll0027_01_holds : PySem.Challenge.rw_ll0027_01.Holds := by
  exact Mine.holds (fun _ _ h0 ha => Mine.math_due Mine.theRow_range h0 ha) Mine.math_dec Mine.math_crc
