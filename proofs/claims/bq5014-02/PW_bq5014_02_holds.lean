import PyProof.Rows.All
import Wide.All
import OpenK.AllK
import Wide.FinOn
import PySem.Challenge.RW_bq5014_02
set_option Elab.async false
set_option rowWalk.seconds 0
section
open PySem PySem.W PySem.Calls PyProof.Rows
open Sem (wp)

namespace Mine
/-- the ids that `exported` looks for on the stack -/
def dirtyIds : List String := Builtin.Bytes.decodersThatHold ++ ["bytearray.__contains__", "bytearray.__mod__", "bytearray.__rmod__", "_struct.pack_into.held", "bytearray.find.held"]
def cleanCode : Code → Bool
  | .builtin id _ => !dirtyIds.contains id
  | _ => true
def CleanB (l : List (Code × Pos)) : Prop := ∀ x ∈ l, cleanCode x.1 = true
def CleanX (Γ : Ctx) : Prop := cleanCode Γ.code = true ∧ CleanB Γ.below
theorem CleanX.enter {Γ : Ctx} (h : CleanX Γ) (c : Code) (hd : Option Value) (p : Pos) : CleanB (Γ.enter c hd p).below := by
  show CleanB ((Γ.code, p) :: Γ.below)
  intro x hx
  rcases List.mem_cons.mp hx with rfl | hx
  · exact h.1
  · exact h.2 x hx
/-- like wpAny, but for contexts alone on whose stack no code stands that could hold a bytearray -/
def wpC {α : Type} (M : Model) (A : Around) (t : Sem α) (Q : α → Shared → Prop) (E : Value → Shared → Prop) (s : Shared) : Prop :=
  ∀ Γ p, Γ.In A → CleanX Γ → wp M Γ t (fun a _ s' => Q a s') (fun e _ s' => E e s') p s
def codeC (M : Model) (A : Around) (c : Code) (R : Result → Shared → Prop) (s : Shared) : Prop :=
  ∀ Γ p, Γ.code = c → Γ.Below A → CleanB Γ.below → wpCode M Γ R p s
section
variable {α β : Type} {M : Model} {A : Around} {E : Value → Shared → Prop} {s : Shared}
theorem wpC_of_any {t : Sem α} {Q : α → Shared → Prop} (h : wpAny M A t Q E s) : wpC M A t Q E s := fun Γ p hΓ _ => h Γ p hΓ
theorem codeC_of_any {c : Code} {R : Result → Shared → Prop} (h : codeAny M A c R s) : codeC M A c R s := fun Γ p hc hΓ _ => h Γ p hc hΓ
theorem wpC_pure {a : α} {Q : α → Shared → Prop} (h : Q a s) : wpC M A (pure a) Q E s := fun _ _ _ _ => h
theorem wpC_mono {t : Sem α} {Q Q' : α → Shared → Prop} {E' : Value → Shared → Prop} (h : wpC M A t Q E s)
    (hQ : ∀ a s, Q a s → Q' a s) (hE : ∀ e s, E e s → E' e s) : wpC M A t Q' E' s :=
  fun Γ p hΓ hC => Sem.wp_mono M Γ t (fun a _ s => hQ a s) (fun e _ s => hE e s) p s (h Γ p hΓ hC)
theorem wpC_bind {m : Sem α} {f : α → Sem β} {Q : β → Shared → Prop} (h : wpC M A m (fun a s' => wpC M A (f a) Q E s') E s) :
    wpC M A (m >>= f) Q E s := fun Γ p hΓ hC => by
  rw [Sem.wp_bind']
  exact Sem.wp_mono M Γ m (fun a p' s' h' => h' Γ p' hΓ hC) (fun _ _ _ h' => h') p s (h Γ p hΓ hC)
/-- the first part by the library's rules, the rest in the clean logic -/
theorem wpC_bindA {m : Sem α} {f : α → Sem β} {Q : β → Shared → Prop} (h : wpAny M A m (fun a s' => wpC M A (f a) Q E s') E s) :
    wpC M A (m >>= f) Q E s := wpC_bind (wpC_of_any h)
theorem wpC_tryCatch {m : Sem α} {k : Value → Sem α} {Q : α → Shared → Prop} (h : wpC M A m Q (fun e s' => wpC M A (k e) Q E s') s) :
    wpC M A (tryCatch m k) Q E s := fun Γ p hΓ hC => by
  rw [Sem.wp_tryCatch']
  exact Sem.wp_mono M Γ m (fun _ _ _ h' => h') (fun e p' s' h' => h' Γ p' hΓ hC) p s (h Γ p hΓ hC)
theorem wpC_onRaise {m : Sem α} {k : Value → Sem Unit} {Q : α → Shared → Prop}
    (h : wpC M A m Q (fun e s' => wpC M A (k e) (fun _ s'' => E e s'') E s') s) : wpC M A (m.onRaise k) Q E s := fun Γ p hΓ hC => by
  rw [Sem.wp_onRaise]
  exact Sem.wp_mono M Γ m (fun _ _ _ h' => h') (fun e p' s' h' => h' Γ p' hΓ hC) p s (h Γ p hΓ hC)
theorem wpC_attempt {m : Sem α} {Q : Except Value α → Shared → Prop} (h : wpC M A m (fun a => Q (.ok a)) (fun e => Q (.error e)) s) :
    wpC M A m.attempt Q E s := fun Γ p hΓ hC => by rw [Sem.wp_attempt]; exact h Γ p hΓ hC
theorem wpC_holding {vs : List Value} {m : Sem α} {Q : α → Shared → Prop} (h : wpC M A m Q E s) : wpC M A (holding vs m) Q E s :=
  fun Γ p hΓ hC => by rw [Sem.wp_holding]; exact h Γ p hΓ hC
theorem wpC_standAt {pos : Pos} {Q : Unit → Shared → Prop} (h : Q () s) : wpC M A (standAt pos) Q E s := fun _ _ _ _ => h
theorem wpC_point {Q : Unit → Shared → Prop} (h : Q () s) : wpC M A point Q E s := fun _ _ _ _ => h
theorem wpC_run {c : Code} {h : Option Value} {Q : Flow → Shared → Prop}
    (hc : codeC M (A.mark h) c (fun r s' => match r with | .ok f => Q f s' | .error e => E e s') s) (hnb : h ≠ some byPass := by intro x; cases x) :
    wpC M A (run c h) Q E s :=
  fun Γ p hΓ hC => by rw [Sem.wp_run]; exact hc _ p rfl (hΓ.enter c h p hnb) (hC.enter c h p)
theorem wpC_runValue {c : Code} {Q : Value → Shared → Prop}
    (hc : codeC M A c (fun r s' => match r with | .ok (.ret v) => Q v s' | .ok _ => False | .error e => E e s') s) :
    wpC M A (runValue c) Q E s := fun Γ p hΓ hC => by rw [Sem.wp_runValue]; exact hc _ p rfl (hΓ.enter c none p (by intro x; cases x)) (hC.enter c none p)
theorem wpC_call {f : Value} {pos : List Value} {kw : List (Str × Value)} {Q : Value → Shared → Prop}
    (hc : codeC M A (.call f ⟨pos, kw⟩) (fun r s' => match r with | .ok (.ret v) => Q v s' | .ok _ => False | .error e => E e s') s) :
    wpC M A (call f pos kw) Q E s := wpC_runValue hc
theorem codeC_of_tree {c : Code} {R : Result → Shared → Prop}
    (h : wpC M (A.under c) (M.den c) (fun fin s' => match fin with | .done f => R (.ok f) s' | .again c' => c'.quiet = true ∧ codeC M A c' R s')
      (fun e s' => R (.error e) s') s) (hq : cleanCode c = true) : codeC M A c R s := fun Γ p hc hΓ hB => by
  rw [wpCode_iff_wp, hc]
  refine Sem.wp_mono M Γ _ (fun fin p' s' h' => ?_) (fun _ _ _ h' => h') p s (h Γ p (hc ▸ hΓ.in) ⟨by rw [hc]; exact hq, hB⟩)
  cases fin with
  | done f => exact h'
  | again c' => exact ⟨h'.1, h'.2 (Γ.goto c') p' rfl (hΓ.goto c') hB⟩
theorem codeC_mono {c : Code} {R R' : Result → Shared → Prop} (h : codeC M A c R s) (hR : ∀ r s, R r s → R' r s) : codeC M A c R' s :=
  fun Γ p hc hΓ hB => wpCode_mono hR (h Γ p hc hΓ hB)
theorem dirty_mem {id : String} (h : dirtyIds.contains id = false) {x : String} (hx : dirtyIds.contains x = true) : id ≠ x := by
  rintro rfl
  rw [hx] at h
  cases h
theorem any_false {l : List (Code × Pos)} {f : Code × Pos → Bool} (hl : CleanB l) (hf : ∀ c p, cleanCode c = true → f (c, p) = false) : l.any f = false := by
  rw [List.any_eq_false]
  rintro ⟨c, p⟩ hx
  rw [hf c p (hl _ hx)]
  exact Bool.false_ne_true
theorem wpC_exported {v : Value} {Q : Bool → Shared → Prop} (h : Q false s) : wpC M A (Builtin.Bytes.exported v) Q E s := fun Γ p hΓ hC => by
  have hB : CleanB ((Γ.code, p) :: Γ.below) := by
    intro x hx
    rcases List.mem_cons.mp hx with rfl | hx
    · exact hC.1
    · exact hC.2 x hx
  unfold Builtin.Bytes.exported
  rw [Sem.wp_bind']
  show Q (((Γ.code, p) :: Γ.below).any _) s
  rw [any_false hB ?_]
  · exact h
  · intro c p hc
    unfold cleanCode at hc
    split at hc
    · rename_i id args
      have hd : dirtyIds.contains id = false := by simpa using hc
      have h1 := dirty_mem hd (x := "bytearray.__contains__") (by decide)
      have h2 := dirty_mem hd (x := "bytearray.__mod__") (by decide)
      have h3 := dirty_mem hd (x := "bytearray.__rmod__") (by decide)
      have h4 := dirty_mem hd (x := "_struct.pack_into.held") (by decide)
      have h5 := dirty_mem hd (x := "bytearray.find.held") (by decide)
      have h6 : Builtin.Bytes.decodersThatHold.contains id = false := by
        cases e : Builtin.Bytes.decodersThatHold.contains id with
        | false => rfl
        | true =>
          exfalso
          have : dirtyIds.contains id = true := by
            rw [List.contains_iff_mem] at e ⊢
            exact List.mem_append_left _ e
          rw [hd] at this; cases this
      split <;> simp_all
    · rename_i hne
      split <;> first | rfl | (exfalso; simp_all)
end
end Mine
end
section
open PySem PySem.W PySem.Calls PyProof.Rows
open Sem (wp)

namespace Mine
theorem caller_clean : CleanX (⟨.builtin "claim.caller" {}, none, none, [], none⟩ : Ctx) := ⟨by decide, fun _ h => (nomatch h)⟩
theorem thread_endsC {prog : Program} {w : World} {t : Sem Fin} {s : Shared} {R : Result → Shared → Prop} (hreg : s.asleep)
    (h : wpC (model prog w) callerA t (fun fin s' => ∃ f, fin = .done f ∧ (R (.ok f) s' ∧ leftWithCleanup s'.gens = false)) (fun e s' => R (.error e) s' ∧ leftWithCleanup s'.gens = false) s) :
    ∃ n r s' s'', runN (denote table) prog w n s ⟨t, .builtin "claim.caller" {}, default, []⟩ = .halted (outcomeOf r) s' ∧
      schedN (denote table) prog w n (.single s ⟨t, .builtin "claim.caller" {}, default, []⟩) = .halted (outcomeOf r) s' ∧ s'.forget = s''.forget ∧ R r s'' := by
  have hw : wp (model prog w) ⟨.builtin "claim.caller" {}, none, none, [], none⟩ t (Sem.finPost (model prog w) ⟨.builtin "claim.caller" {}, none, none, [], none⟩ fun r s' => R r s' ∧ leftWithCleanup s'.gens = false)
      (fun e _ s' => R (.error e) s' ∧ leftWithCleanup s'.gens = false) default s := by
    refine Sem.wp_mono _ _ t (fun fin p' s' h' => ?_) (fun _ _ _ h' => h') _ s (h _ default caller_in caller_clean)
    obtain ⟨f, rfl, hf⟩ := h'
    exact hf
  obtain ⟨n, r, s₁, s₂, hs, hn, hfo, hR⟩ := wp_halts_full (M := model prog w) (R := R) hreg hw
  exact ⟨n, r, s₂, s₁, hn, hs, hfo, hR⟩
theorem callFromC {c : ClaimW} {tree : List Value → Sem Fin} {w : World} {s : Shared} {free : Addr → Prop} {gens : Prop} {kept : Heap → Prop} (hz : s.asleep) (hgens : s.gens = #[])
    (hspec : ∀ args, c.pre args = true → WData.layableAll args = true →
      ∀ ord : List DictEntry → List DictEntry, (∀ l, (ord l).Perm l) →
      ∃ vs s₁, layAllW c.records (classAt s.heap) w.params ord args s = some (vs, s₁) ∧
        wpC (model c.prog w) callerA (tree vs) (fun fin s' => ∃ f, fin = .done f ∧ (c.Ends s args vs s₁ (.ok f) s' ∧ s'.os = s.os ∧ AllBare s'.gens ∧ kept s'.heap))
          (fun e s' => c.Ends s args vs s₁ (.error e) s' ∧ s'.os = s.os ∧ AllBare s'.gens ∧ kept s'.heap) s₁) :
    c.CallFrom (fun vs => ⟨tree vs, .builtin "claim.caller" {}, default, []⟩) w free gens kept s := by
  intro args hpre hlay ord hord
  obtain ⟨vs, s₁, hlaid, hcode⟩ := hspec args hpre hlay ord hord
  have hal := layAllW_rest _ _ _ hlaid
  obtain ⟨k, r, s', s'', hrun, hsched, hfo, hcase, hos, hkp⟩ := thread_endsC (prog := c.prog) (w := w) (t := tree vs) (s := s₁)
    (R := fun r s' => c.Ends s args vs s₁ r s' ∧ s'.os = s.os ∧ kept s'.heap)
    (Shared.asleep_of_life hal.2.2.2 hz)
    (wpC_mono hcode (by
      rintro fin s' ⟨f, e, h1, h2, h3, h4⟩
      exact ⟨f, e, ⟨h1, h2, h4⟩, leftWithCleanup_false_of_bare h3⟩) (by
      rintro e s' ⟨h1, h2, h3, h4⟩
      exact ⟨⟨h1, h2, h4⟩, leftWithCleanup_false_of_bare h3⟩))
  obtain ⟨eh, _, _, eo, _⟩ := Shared.forget_eq hfo
  have hcase := hcase.congr eh
  have hkp : kept s'.heap := by rw [eh]; exact hkp
  rw [← eo] at hos
  have hlife : s'.heap.life = s.heap.life := (runN_life _ _ _ hrun).trans hal.2.2.2
  refine ⟨vs, s₁, hlaid, k, _, s', hsched, ?_, (fun _ i x hx => by rw [hgens] at hx; simp at hx), hkp, by rw [hlife], Shared.rest_eq hos⟩
  rcases hcase with ⟨v, rfl, d1, d2, d3, d4, d5⟩ | ⟨e, ob, cls, rfl, d1, d2, d3, d4, d5⟩
  · exact .inl ⟨v, rfl, d1, d2, d3, fun b o y _ => d4 b o y, d5⟩
  · exact .inr ⟨e, ob, cls, rfl, d1, d2, d3, d4, fun b o y _ => d5 b o y⟩
theorem open_anyC {r : RowW} {run : Value → List Value → Sem Value} {tree : List Value → Sem Fin} {q : Program} {loose defs kps : List Str} {writes : Bool} {Xt : Shared → Bool} {XP : (Str → Option Value) → Heap → Prop} {α : Type} {Yf : Shared → α} {Ya : World → α} {YP : World → Heap → Prop} {N : Nat}
    (left : LeftO r.prog q loose Xt Yf Ya N) (hY : ∀ w s, Yf s = Ya w → YP w s.heap) (hYk : ∀ w h h', YP w h → (∀ b o, h.get? b = some o → h'.get? b = some o) → YP w h') (hX : ∀ s, Xt s = true → XP (s.heap.nsMap mainGlobals) s.heap) (hXk : ∀ mg h h', XP mg h → (∀ b o, h.get? b = some o → h'.get? b = some o) → XP mg h')
    (hRf : ∀ s, Xt s = true → RecFacts r.records s.heap) (hwr : (!writes || r.records.isEmpty) = true) (ok : (chainsOk q && opensWell r.prog && (frees r && r.within.isEmpty)) = true) (hb : r.prog.bare) (hw : r.promised)
    (ht : ∀ vs (w : World) (s : Shared) mg f (Q : Fin → Shared → Prop) (E : Value → Shared → Prop), s.heap.Ns mainGlobals mg → mg r.name = some f → wpC (model r.prog w) callerA (run f vs) (fun v s' => Q (.done (.ret v)) s') E s → wpC (model r.prog w) callerA (tree vs) Q E s)
    (pin : ∀ w s, s.heap.isNs mainGlobals = true → Ground q loose [] XP w s (s.heap.nsMap mainGlobals) (s.heap.nsMap builtinsNs) s.heap → ∀ n ∈ defs, isTheDefsW r.prog s.heap n)
    (call : ∀ (w : World) (s₀ s₁ : Shared) (mg mb : Str → Option Value), Ground q loose r.records XP w s₀ mg mb s₁.heap → YP w s₁.heap → ∀ (args : List WData) (vs : List Value) (as : List Addr),
      r.claim.pre args = true → WData.layableAll args = true → Laid r.records w s₀ s₁ args vs as → sysModules < s₀.heap.objs.size → ∃ f, mg r.name = some f ∧
        wpC (model r.prog w) callerA (run f vs) (fun v s' => GoodWG r.claim (classAt s₀.heap) (ExcName.means s₀.heap) args s₁ (.ok (.ret v)) s')
          (fun e s' => GoodWG r.claim (classAt s₀.heap) (ExcName.means s₀.heap) args s₁ (.error e) s') s₁) : r.claim.HoldsOpenBy (fun vs => ⟨tree vs, .builtin "claim.caller" {}, default, []⟩) defs kps writes := by
  obtain ⟨ok, k5⟩ := Bool.and_eq_true_iff.mp ok
  obtain ⟨hch, o1⟩ := Bool.and_eq_true_iff.mp ok
  obtain ⟨k5, k6⟩ := Bool.and_eq_true_iff.mp k5
  obtain ⟨hsame, hu, ha, hap, hm⟩ := frees_parts k5
  refine ⟨⟨hb, o1, by show r.makers.map _ = []; rw [hm]; rfl⟩, hw.witness, fun w => ⟨(left.behind hX hch w).1, fun s' hs' => ?_⟩⟩
  obtain ⟨s₀, hf, hg0, s, hT, hz, hgens, hg, G00, y⟩ := (left.behind (XP := fun mg h => XP mg h ∧ RecFacts r.records h) (fun s hs => ⟨hX s hs, hRf s hs⟩) hch w).2 s' hs'
  have G0 : Ground q loose [] XP w s (s.heap.nsMap mainGlobals) (s.heap.nsMap builtinsNs) s.heap := ⟨G00.T, G00.B, G00.D, G00.TE, G00.TD, G00.W, G00.X.1, G00.cls, G00.has, G00.apart, G00.once, G00.K⟩
  have RF := G00.X.2
  have hT' := hT
  refine ⟨s₀, hf, hg0, s, hT, pin w s hg G0, RF.1, RF.2.1, ?_⟩
  have hgens : s.gens = #[] := Array.eq_empty_of_size_eq_zero (beq_iff_eq.mp hgens)
  have G : Ground q loose r.records XP w s _ _ s.heap := RF.ground G0
  refine callFromC (c := r.claim) hz hgens fun args hpre hlay ord hord => ?_
  obtain ⟨⟨vs, s₁⟩, hlaid⟩ := Option.isSome_iff_exists.mp (layAllW_isSome (P := w.params) (ord := ord) G.has args r.args s (pre_splitW hpre).1)
  have keeps := layAllW_keeps _ _ _ hlaid
  have hal := layAllW_rest _ _ _ hlaid
  obtain ⟨as, hrd, hin, hold⟩ := reads_layAllW hord _ _ _ hlaid hlay s₁.heap (fun _ _ e => e)
  have L : Laid r.records w s s₁ args vs as := ⟨⟨ord, hord, hlaid⟩, hrd, hin, hold, keeps, hal.1.trans hgens, hal.2.2.1⟩
  have G₁ := G.keeps hXk keeps
  obtain ⟨f, hf, h⟩ := call w s s₁ _ _ G₁ (hYk _ _ _ (hY w s y) keeps) args vs as hpre hlay L G.low
  have hi := ident_freeW hu ha hap
  have hwi : r.claim.within = [] := List.isEmpty_iff.mp k6
  exact ⟨vs, s₁, hlaid, ht vs w s₁ _ f _ _ G₁.T.g hf (wpC_mono h (fun v s' g => ⟨_, rfl, have z := g.laid (c := r.claim) hsame hwi hi L; ⟨z.1, z.2.1, z.2.2, fun q => ⟨namesKept_of hT' hg kps keeps g.2.1.old, noTable hwr q⟩⟩⟩) fun e s' g => have z := g.laid (c := r.claim) hsame hwi hi L; ⟨z.1, z.2.1, z.2.2, fun q => ⟨namesKept_of hT' hg kps keeps g.2.1.old, noTable hwr q⟩⟩)⟩
/-- what is asked of the walk: the library's `WalkO`, in the clean logic -/
abbrev WalkC (q : Program) (loose : List Str) (XP : (Str → Option Value) → Heap → Prop) (YP : World → Heap → Prop) (r : RowW) (d : DefRec) (kwd : List (Str × Expr)) (run : Value → List Value → Sem Value) : Prop :=
  ∀ (w : World) (s₀ s₁ : Shared) (mg mb : Str → Option Value), Ground q loose r.records XP w s₀ mg mb s₁.heap → YP w s₁.heap → ∀ (a : Addr) (o : Obj) (pm cd doc dV kV : Value), s₁.heap.get? a = some o →
    o.data = .func { docDef d.name d.params d.body d.scope pm cd doc with defaults := dV, kwdefaults := kV } → s₁.heap.CodeRec cd d.name → Dflts mg s₁.heap d.params kwd dV kV → mg d.name = some (.ref a) → s₁.gens = #[] →
    ∀ (args : List WData) (vals : List Value) (as : List Addr), r.claim.pre args = true → WData.layableAll args = true → ReadsAllW r.records (classAt s₀.heap) s₁.heap vals args as → WellAll w.params s₁.heap vals args → (∀ a ∈ as, (a == sysModules) = false) →
      wpC (model r.prog w) callerA (run (.ref a) vals) (fun v s' => GoodWG r.claim (classAt s₀.heap) (ExcName.means s₀.heap) args s₁ (.ok (.ret v)) s')
        (fun e s' => GoodWG r.claim (classAt s₀.heap) (ExcName.means s₀.heap) args s₁ (.error e) s') s₁
theorem holds_openX {r : OpenRow} {q : Program} {loose : List Str} {Xt : Shared → Bool} {XP : (Str → Option Value) → Heap → Prop} {α : Type} {Yf : Shared → α} {Ya : World → α} {YP : World → Heap → Prop} {d : DefRec} {kwd : List (Str × Expr)} {N : Nat}
    (left : LeftO r.prog q loose Xt Yf Ya N) (hY : ∀ w s, Yf s = Ya w → YP w s.heap) (hYk : ∀ w h h', YP w h → (∀ b o, h.get? b = some o → h'.get? b = some o) → YP w h')
    (hX : ∀ s, Xt s = true → XP (s.heap.nsMap mainGlobals) s.heap) (hXk : ∀ mg h h', XP mg h → (∀ b o, h.get? b = some o → h'.get? b = some o) → XP mg h')
    (hdef : defOf q r.name = some (d, kwd)) (hp : r.prog.theDef r.name = some (d.params, d.body, d.scope)) (hk : kwWritten? d.params.kwonlyargs d.params.kw_defaults = some kwd) (hRf : ∀ s, Xt s = true → RecFacts r.records s.heap) (hwr : (!r.writes || r.records.isEmpty) = true)
    (k1 : r.wellSaid = true) (ok : (chainsOk q && opensWell r.prog && (frees r.toRowW && r.within.isEmpty)) = true) (hb : r.prog.bare) (hw : r.toRowW.promised)
    (call : WalkC q loose XP YP r.toRowW d kwd fun f vs => PySem.call f vs) : r.Holds := by
  refine ⟨k1, hw, open_anyC (r := r.toRowW) (run := fun f vs => PySem.call f vs) (tree := fun vs => do match ← nsGet mainNs r.name with
      | some f => do ret (← PySem.call f vs)
      | none => unsupported "claim.caller:no-such-global") left hY hYk hX hXk hRf hwr ok hb hw
    (fun vs w s mg f Q E hg hf h => wpC_bindA (wpAny_nsGet hg (by rw [hf]; exact wpC_bind (wpC_mono h (fun _ _ x => wpC_pure x) fun _ _ x => x))))
    (fun w s hg G n hn => ?_) fun w s₀ s₁ mg mb G Y args vs as hpre hlay L low => ?_⟩
  · obtain rfl : n = r.name := by split at hn <;> simp_all
    exact pinned_of_view hg G hdef hp hk
  · obtain ⟨a, o, pm, cd, doc, dV, kV, h1, h2, h3, h4, h5⟩ := G.fn hdef
    exact ⟨.ref a, h1, call w s₀ s₁ mg mb G Y a o pm cd doc dV kV h2 h3 h4 h5 (defOf_name hdef ▸ h1) L.gens args vs as hpre hlay L.reads L.well (L.low low)⟩
end Mine
end
section
open PySem PySem.W PySem.Calls PyProof.Rows
open Sem (wp)

namespace Mine
section
variable {M : Model} {A : Around} {E : Value → Shared → Prop} {s : Shared} {env : Env}
theorem wpC_of_eq {α : Type} {t : Sem α} {a : α} {Q : α → Shared → Prop} (e : t = pure a) (h : Q a s) : wpC M A t Q E s := e ▸ wpC_pure h
theorem wpC_execs_nil {Q : Flow → Shared → Prop} (h : Q .next s) : wpC M A (execs [] env) Q E s := wpC_of_any (wpAny_execs_nil h)
theorem wpC_execs_cons {st rest} {Q : Flow → Shared → Prop}
    (h : wpC M A (exec st env) (fun f s' => match f with | .next => wpC M A (execs rest env) Q E s' | f => Q f s') E s) :
    wpC M A (execs (st :: rest) env) Q E s := by
  rw [execs_cons]
  refine wpC_bind (wpC_mono h (fun f s' h' => ?_) fun _ _ h' => h')
  cases f <;> first | exact h' | exact wpC_pure h'
/-- the first statement by the library's rules -/
theorem wpC_execs_consA {st rest} {Q : Flow → Shared → Prop}
    (h : wpAny M A (exec st env) (fun f s' => match f with | .next => wpC M A (execs rest env) Q E s' | f => Q f s') E s) :
    wpC M A (execs (st :: rest) env) Q E s := wpC_execs_cons (wpC_of_any h)
theorem wpC_bindName {x : Str} {v : Value} {Q : Unit → Shared → Prop} (h : wpC M A (storeName env x v) Q E s) : wpC M A (bindName env x v) Q E s :=
  fun Γ p hΓ hC => by rw [Sem.wp_bindName]; exact h Γ p hΓ hC
theorem wpC_Assign_Name {x pos' value pos} {Q : Flow → Shared → Prop}
    (h : wpC M A (eval value env) (fun v s₁ => wpC M A (storeName env x v) (fun _ => Q .next) E s₁) E s)
    (hs : swapsWith value (some (.Name x pos')) pos.line env = pure false := by rfl) :
    wpC M A (exec (.Assign [.Name x pos'] value pos) env) Q E s := by
  rw [exec_Assign_Name env x pos' value pos hs]
  refine wpC_bind (wpC_standAt (wpC_bind (wpC_mono h (fun v s₁ h₁ => ?_) fun _ _ h' => h')))
  exact wpC_bind (wpC_standAt (wpC_bind (wpC_bindName (wpC_mono h₁ (fun _ _ h₂ => wpC_pure h₂) fun _ _ h' => h'))))
theorem wpC_Assign_Attribute {o attr pos' value pos} {Q : Flow → Shared → Prop}
    (h : wpC M A (eval value env) (fun v s₁ => wpAny M A (eval o env) (fun ov s₂ => wpAny M A (setAttr ov attr v) (fun _ => Q .next) E s₂) E s₁) E s)
    (hs : swapsWith value (some (.Attribute o attr pos')) pos.line env = pure false := by rfl) :
    wpC M A (exec (.Assign [.Attribute o attr pos'] value pos) env) Q E s := fun Γ p hΓ hC => by
  simp only [plainObj_exec_Assign_Attribute o attr pos' value pos hs, assign_Attribute, Sem.wp_bind', Sem.wp_holding, Sem.wp_cmd_standAt, Sem.wp_release, Sem.wp_pure']
  exact Sem.wp_mono M Γ _ (fun v p₁ s₁ h₁ => Sem.wp_mono M Γ _ (fun ov _ s₂ h₂ => h₂ Γ _ hΓ) (fun _ _ _ h' => h') _ _ (h₁ Γ p₁ hΓ)) (fun _ _ _ h' => h') _ _ (h Γ _ hΓ hC)
theorem wpC_Return_some {e pos} {Q : Flow → Shared → Prop} (h : wpC M A (eval e env) (fun v => Q (.ret v)) E s) :
    wpC M A (exec (.Return (some e) pos) env) Q E s := by
  rw [exec_Return_some]
  exact wpC_bind (wpC_standAt (wpC_bind (wpC_mono h (fun _ _ h' => wpC_pure h') fun _ _ h' => h')))
theorem wpC_If {test body orelse pos} {Q : Flow → Shared → Prop}
    (h : wpAny M A (isTrue test env (eval test env))
      (fun b s₂ => if b then wpC M A (execs body env) Q E s₂ else wpC M A (execs orelse env) Q E s₂) E s) :
    wpC M A (exec (.If test body orelse pos) env) Q E s := by
  rw [exec_If]
  refine wpC_bind (wpC_standAt (wpC_bindA (wpAny_mono h (fun b s₂ h₂ => ?_) fun _ _ h' => h')))
  cases b <;> exact h₂
theorem wpC_Call_Name {x : Str} {p pos : Pos} {args : List Expr} {Q : Value → Shared → Prop}
    (h : wpAny M A (eval (.Name x p) env) (fun f s₁ => wpC M A (callWith pos f [] (backTo pos (starEach args env)) []) Q E s₁) E s) :
    wpC M A (eval (.Call (.Name x p) args [] pos) env) Q E s := wpC_bindA (m := eval (.Name x p) env) h
/-- a call: the arguments, the look at what is called, the call -/
theorem wpC_callWith {pos : Pos} {f : Value} {first : List Value} {args : List (Bool × Sem Value)} {Q : Value → Shared → Prop} (hp : args.any (·.1) = false)
    (h : wpC M A (evalArgs f true args []) (fun a s₁ => wpAny M A (keeperOf f) (fun _ s₂ => wpC M A (call f (first ++ a.pos) a.kw) Q E s₂) E s₁) E s) :
    wpC M A (callWith pos f first args []) Q E s := by
  unfold callWith
  refine wpC_bind (wpC_holding (wpC_mono h (fun a s₁ h₁ => wpC_bind (wpC_standAt ?_)) fun _ _ h' => h'))
  have tail : ∀ {t : Sem Value} {s₁ : Shared}, wpC M A t Q E s₁ → wpC M A (t >>= fun r => holding [r] point >>= fun _ => pure r) Q E s₁ :=
    fun ht => wpC_bind (wpC_mono ht (fun r s₂ hr => wpC_bind (wpC_holding (wpC_point (wpC_pure hr)))) fun _ _ x => x)
  have keep : ∀ {t : Sem Value} {vs : List Value} {s₁ : Shared}, wpC M A t Q E s₁ → wpC M A (t.keep vs) Q E s₁ := fun {t vs s₁} ht Γ p hΓ hC => by
    rw [Sem.wp_keep]; exact ht Γ p hΓ hC
  have oper : ∀ {t : Sem Value} {vs : List Value} {s₁ : Shared}, wpC M A t Q E s₁ → wpC M A (operate vs t) Q E s₁ := fun {t vs s₁} ht Γ p hΓ hC => by
    rw [Sem.wp_operate]; exact ht Γ p hΓ hC
  simp only [hp, List.any_nil, Bool.or_false]
  refine wpC_bindA (wpAny_mono h₁ (fun k s₂ h₂ => ?_) fun _ _ h' => h')
  cases k <;> dsimp only <;> (try split) <;> first | exact tail h₂ | (unfold callMarked; exact tail (keep h₂)) | exact tail (oper h₂)
theorem wpC_evalArgs_nil {f : Value} {Q : Args → Shared → Prop} (h : Q ⟨[], []⟩ s) : wpC M A (evalArgs f true [] []) Q E s := wpC_of_any (evalArgs_nil3 h)
/-- one argument -/
theorem wpC_evalArgs_one {f : Value} {x : Sem Value} {Q : Args → Shared → Prop}
    (h : wpC M A x (fun v s' => Q ⟨[v], []⟩ s') E s) : wpC M A (evalArgs f true [(false, x)] []) Q E s := by
  unfold evalArgs
  show wpC M A (spliced ((false, x) :: []) >>= _) Q E s
  refine wpC_bind ?_
  rw [spliced]
  refine wpC_bind (wpC_mono h (fun v s₁ h₁ => ?_) fun _ _ h' => h')
  simp only [Bool.false_eq_true, if_false]
  refine wpC_bind (wpC_pure (wpC_bind (wpC_holding (wpC_of_any (spliced_nil (wpC_pure ?_))))))
  refine wpC_holding ?_
  exact wpC_bind (wpC_pure (wpC_bind (wpC_pure (wpC_pure h₁))))
theorem wpC_evalArgs_any {f : Value} {args : List (Bool × Sem Value)} {kws : List (Option Str × Sem Value)} {Q : Args → Shared → Prop} (h : wpAny M A (evalArgs f true args kws) Q E s) : wpC M A (evalArgs f true args kws) Q E s := wpC_of_any h
theorem wpC_IfExp {test body orelse : Expr} {pos : Pos} {Q : Value → Shared → Prop}
    (h : wpAny M A (isTrue test env (eval test env)) (fun b s₂ => if b then wpC M A (eval body env) Q E s₂ else wpC M A (eval orelse env) Q E s₂) E s) :
    wpC M A (eval (.IfExp test body orelse pos) env) Q E s := by
  rw [arm_eval_IfExp]
  refine wpC_bindA (wpAny_mono h (fun b s₂ h₂ => ?_) fun _ _ h' => h')
  cases b <;> exact h₂
theorem wpC_Attribute {value : Expr} {attr : Str} {pos : Pos} {Q : Value → Shared → Prop}
    (h : wpC M A (eval value env) (fun o s₁ => wpAny M A (getAttr o attr true) (fun r s₂ => wpAny M A (letTemporaryGo value o r) (fun _ s₃ => Q r s₃) E s₂) E s₁) E s)
    (hb : attributeBase value attr env (eval value env) = eval value env := by rfl) : wpC M A (eval (.Attribute value attr pos) env) Q E s := by
  rw [arm_eval_Attribute, hb]
  refine wpC_bind (wpC_mono h (fun o s₁ h₁ => ?_) fun _ _ h' => h')
  refine wpC_of_any (wpAny_bind (wpAny_standAt (wpAny_bind (wpAny_holding (wpAny_mono h₁ (fun r s₂ h₂ => ?_) fun _ _ h' => h')))))
  exact wpAny_bind (wpAny_mono h₂ (fun _ _ h₃ => wpAny_pure h₃) fun _ _ h' => h')
theorem wpC_Call_Attribute {o : Expr} {name : Str} {apos pos : Pos} {args : List Expr} {Q : Value → Shared → Prop}
    (h : wpAny M A (eval o env) (fun ov s₁ => ∀ pl, wpAny M A (getMethod ov name pl) (fun v s₂ => wpC M A (callWith pos v.1 v.2 (backTo pos (starEach args env)) []) Q E s₂) E s₁) E s)
    (hb : attributeBase o name env (eval o env) = eval o env := by rfl) (hf : methodCallForm (args.length + ([] : List Keyword).length) (backTo pos (starEach args env)) (backToKw pos (keywordEach [] env)) = true := by rfl)
    (hl : (apos.endLine == pos.line) = true := by rfl) : wpC M A (eval (.Call (.Attribute o name apos) args [] pos) env) Q E s := by
  rw [arm_eval_Call, hb]
  refine wpC_bindA (wpAny_mono h (fun ov s₁ h₁ => wpC_bind (wpC_standAt ?_)) fun _ _ h' => h')
  unfold methodCall
  rw [hf]
  refine wpC_bindA (wpAny_holding (wpAny_mono (h₁ _) (fun v s₂ h₂ => ?_) fun _ _ h' => h'))
  have hp : methodCallPos true o env apos pos = pure pos := by unfold methodCallPos; simp [hl]
  rw [hp]
  exact wpC_bind (wpC_pure h₂)
theorem keeper_meth {q f : Addr} {self : Value} {o : Obj} {fd : FuncData} {Q : Keeper → Shared → Prop} (hq : s.heap.get? q = some (methodObj (.ref f) self)) (ho : s.heap.get? f = some o) (hd : o.data = .func fd) (h : Q .boundFrame s) : wpAny M A (keeperOf (.ref q)) Q E s := by
  unfold keeperOf
  refine wpAny_bind (wpAny_load hq ?_)
  show wpAny M A (load f >>= _) Q E s
  refine wpAny_bind (wpAny_load ho ?_)
  rw [hd]
  exact wpAny_pure h
theorem wpC_callWith1 {pos : Pos} {f : Value} {first : List Value} {e : Expr} {Q : Value → Shared → Prop}
    (h : wpC M A (eval e env) (fun v s₁ => wpAny M A (keeperOf f) (fun _ s₂ => wpC M A (call f (first ++ [v]) []) Q E s₂) E s₁) E s)
    (he : starEach [e] env = [(false, eval e env)] := by rfl) : wpC M A (callWith pos f first (backTo pos (starEach [e] env)) []) Q E s := by
  rw [he]
  show wpC M A (callWith pos f first [(false, eval e env)] []) Q E s
  exact wpC_callWith rfl (wpC_evalArgs_one h)
theorem wpC_callWith0 {pos : Pos} {f : Value} {first : List Value} {Q : Value → Shared → Prop}
    (h : wpAny M A (keeperOf f) (fun _ s₂ => wpC M A (call f (first ++ []) []) Q E s₂) E s) : wpC M A (callWith pos f first (backTo pos (starEach [] env)) []) Q E s := by
  show wpC M A (callWith pos f first [] []) Q E s
  exact wpC_callWith rfl (wpC_evalArgs_nil h)
theorem keeper_val {f : Value} {Q : Keeper → Shared → Prop} (hf : ∀ a, f ≠ .ref a) (h : Q .machine s) : wpAny M A (keeperOf f) Q E s := by
  unfold keeperOf
  cases f <;> first | exact wpAny_pure h | exact absurd rfl (hf _)
theorem keeper_fn {a : Addr} {o : Obj} {fd : FuncData} {Q : Keeper → Shared → Prop} (ho : s.heap.get? a = some o) (hd : o.data = .func fd) (h : Q .frame s) : wpAny M A (keeperOf (.ref a)) Q E s := by
  unfold keeperOf
  refine wpAny_bind (wpAny_load ho ?_)
  rw [hd]
  exact wpAny_pure h
end
section
variable {prog : Program} {w : World} {A : Around} {E : Value → Shared → Prop} {R : Result → Shared → Prop} {s : Shared}
theorem codeC_func {body env}
    (h : wpC (model prog w) (A.deeper env) (execs body env) (fun f s' => R (.ok (.ret (match f with | .ret v => v | _ => .none))) s')
      (fun e s' => wpAny (model prog w) (A.deeper env) (leaving env e) (fun _ s'' => R (.error e) s'') (fun e' s'' => R (.error e') s'') s') s) :
    codeC (model prog w) A (.func body env) R s := by
  refine codeC_of_tree ?_ rfl
  show wpC _ (A.deeper env) (do point; match ← (execs body env).onRaise (leaving env) with | .ret v => ret v | _ => ret .none) _ _ s
  refine wpC_bind (wpC_point (wpC_bind (wpC_onRaise (wpC_mono h (fun f s' h' => ?_) fun _ _ h' => wpC_of_any h'))))
  cases f <;> exact wpC_pure h'
theorem codeC_call_function {a : Addr} {args : Args} {o : Obj} {fd : FuncData} {body : List Stmt} (hroom : A.depth < recursionLimit)
    (ho : s.heap.get? a = some o)
    (hd' : o.data = .func fd) (hco : fd.scope.isCoroutine = false) (hgen : fd.scope.isGenerator = false) (hbody : fd.body = .stmts body) (hcd : s.heap.CodeRec fd.code fd.qualname)
    (h : wpAny (model prog w) A.in1 (bindArgs fd args) (fun binds s₁ =>
      wpAny (model prog w) A.in1 (newFunctionEnv fd.scope fd.globals fd.closure binds (fd.qualname ++ ".<locals>.") (some a) fd.code none fd.builtins)
        (fun env s₂ => s₂.heap.NoLimit ∧ codeC (model prog w) A (.func body env) R s₂) (fun e s' => R (.error e) s') s₁) (fun e s' => R (.error e) s') s) :
    codeC (model prog w) A (.call (.ref a) args) R s := by
  refine codeC_of_tree ?_ rfl
  show wpC _ A.in1 (callAny (.ref a) args) _ _ s
  refine wpC_of_any ?_
  simp only [callAny]
  refine wpAny_bind (wpAny_load ho ?_)
  obtain ⟨c, oc, vs, tq, hc, hoc, hdc, hq⟩ := hcd
  simp only [hd', callFunction, hco, hgen, hbody, hc]
  rw [hc] at h
  refine wpAny_bind (m := field (.ref c) 1) (wpAny_field hoc hdc hq (wpAny_bind (wpAny_pure ?_)))
  exact wpAny_bind (wpAny_mono h (fun binds s₁ h₁ => wpAny_bind (wpAny_mono h₁ (fun env s₂ h₂ => wpAny_bind (wpAny_enterFrame h₂.1 hroom
    (wpAny_pure (And.intro rfl h₂.2)))) fun _ _ h' => h')) fun _ _ h' => h')
theorem codeC_call_def {a : Addr} {o : Obj} {fd : FuncData} {body : List Stmt} {args : Args} {binds : List (Str × Value)}
    (hroom : A.depth < recursionLimit) (ho : s.heap.get? a = some o) (hdata : o.data = .func fd) (hlim : s.heap.NoLimit) (hcd : s.heap.CodeRec fd.code fd.qualname)
    (hbody : fd.body = .stmts body) (hbind : BindsTo s fd args binds)
    (hcell : ∀ x ∈ fd.scope.names, x.2 ≠ .cell) (hloc : ∀ x ∈ binds, fd.scope.names.lookup x.1 = some .local)
    (h : ∀ h₀, h₀.Ns s.heap.objs.size (fun x => binds.reverse.lookup x) → (∀ b o, s.heap.get? b = some o → h₀.get? b = some o) →
      wpC (model prog w) (A.deeper (callEnv fd s.heap.objs.size a)) (execs body (callEnv fd s.heap.objs.size a)) (fun f s' => R (.ok (.ret (match f with | .ret v => v | _ => .none))) s')
        (fun e s' => wpAny (model prog w) (A.deeper (callEnv fd s.heap.objs.size a)) (leaving (callEnv fd s.heap.objs.size a) e) (fun _ s'' => R (.error e) s'') (fun e' s'' => R (.error e') s'') s')
        { s with heap := h₀, toks := s.toks + binds.length })
    (hco : fd.scope.isCoroutine = false := by rfl) (hgen : fd.scope.isGenerator = false := by rfl) (hk : fd.scope.kind = .function := by rfl) :
    codeC (model prog w) A (.call (.ref a) args) R s := by
  refine codeC_call_function hroom ho hdata hco hgen hbody hcd (hbind _ _ _ _ ?_)
  refine wpAny_newFunctionEnv hcell hloc (fun h₀ hns₀ hsb₀ => ⟨hlim.fresh _ hsb₀, codeC_func (h h₀ hns₀ fun b o e => ?_)⟩) hk
  exact hsb₀.extBut b o (Nat.ne_of_lt (Heap.lt_size e)) (Heap.get?_push_of_some _ e)
theorem codeC_meth {q : Addr} {f self : Value} {args : List Value} (hq : s.heap.get? q = some (methodObj f self))
    (h : codeC (model prog w) A (.call f ⟨self :: args, []⟩) R s) : codeC (model prog w) A (.call (.ref q) ⟨args, []⟩) R s := by
  refine codeC_of_tree ?_ rfl
  show wpC _ A.in1 (callAny (.ref q) ⟨args, []⟩) _ _ s
  simp only [callAny]
  refine wpC_bindA (wpAny_load hq ?_)
  have hf : ∀ id, f = .builtin id → wpC (model prog w) A.in1 (again (.call f ⟨self :: args, []⟩)) (fun fin s' => match fin with | .done f => R (.ok f) s' | .again c' => c'.quiet = true ∧ codeC (model prog w) A c' R s') (fun e s' => R (.error e) s') s := fun _ _ => wpC_pure ⟨rfl, h⟩
  cases f <;> exact wpC_pure ⟨rfl, h⟩
theorem enter_callC {M : Model} {A : Around} {s : Shared} {f : Value} {pos : List Value} {kw : List (Str × Value)} {c : ClaimW} {cl : Str → Option Addr} {mean : ExcName → Option Value} {args : List WData} {s₁ : Shared}
    (h : codeC M A (.call f ⟨pos, kw⟩) (GoodWG c cl mean args s₁) s) : wpC M A (PySem.call f pos kw) (fun v s' => GoodWG c cl mean args s₁ (.ok (.ret v)) s') (fun e s' => GoodWG c cl mean args s₁ (.error e) s') s :=
  wpC_call (codeC_mono h fun res s' g => by rcases g.1 with ⟨v, _, _, rfl, _⟩ | ⟨e, _, _, rfl, _⟩ <;> exact g)
theorem call_fullC {name : Str} {params : Arguments} {body : List Stmt} {scope : Scope}
    {dV kV pm cd doc : Value} {a : Addr} {o : Obj} {args : Args} {binds : List (Str × Value)}
    (hroom : A.depth < recursionLimit) (ho : s.heap.get? a = some o) (hdata : o.data = .func { docDef name params body scope pm cd doc with defaults := dV, kwdefaults := kV }) (hlim : s.heap.NoLimit) (hcd : s.heap.CodeRec cd name)
    (hbind : BindsTo s { docDef name params body scope pm cd doc with defaults := dV, kwdefaults := kV } args binds)
    (hloc : ∀ x ∈ binds, scope.names.lookup x.1 = some .local)
    (h : ∀ h₁, Fr s.heap s.heap.objs.size h₁ (fun x => binds.reverse.lookup x) →
      wpC (model prog w) (A.deeper (envOf name scope s.heap.objs.size a cd)) (execs body (envOf name scope s.heap.objs.size a cd))
        (fun f s' => R (.ok (.ret (match f with | .ret v => v | _ => .none))) s')
        (fun e s' => wpAny (model prog w) (A.deeper (envOf name scope s.heap.objs.size a cd)) (leaving (envOf name scope s.heap.objs.size a cd) e)
          (fun _ s'' => R (.error e) s'') (fun e' s'' => R (.error e') s'') s')
        { s with heap := h₁, toks := s.toks + binds.length })
    (hco : scope.isCoroutine = false := by rfl) (hgen : scope.isGenerator = false := by rfl) (hk : scope.kind = .function := by rfl)
    (hcell : ∀ x ∈ scope.names, x.2 ≠ .cell := by decide) :
    codeC (model prog w) A (.call (.ref a) args) R s :=
  codeC_call_def hroom ho hdata hlim hcd rfl hbind hcell hloc (fun h₁ hns hkeep => h h₁ ⟨hns, hkeep, Nat.le_refl _⟩) hco hgen hk
end
section
variable {prog : Program} {w : World} {A A₀ : Around} {E : Value → Shared → Prop} {s : Shared} {K : Frag} {L : Addr} {h₀ base : Heap} {m mg mb : Str → Option Value} {news : List (Addr × Obj)} {p : Program} {loose : List Str} {mean : ExcName → Option Value}
/-- the library's `code_def`, in the clean logic -/
theorem codeC_def {env : Env} {outer : List Env} {R : Result → Shared → Prop} {name qual : Str} {params : Arguments} {body : List Stmt} {scope : Scope} {dV kV doc pm cdv ct oc : Value} {an od : Option Addr} {osl : Array (Option Value)} {f : Addr} {args : Args} {binds : List (Str × Value)}
    (B : Below A₀ base outer h₀) (F : Fr h₀ L s.heap m) (X₀ : K.In h₀) (N : News h₀ L s.heap news) (T : Top p loose mean mg mb h₀) (hA : A.frames = some (env :: outer)) (hf : env.frame = some L) (hke : env.scope.kind = .function)
    (ho : K.lookup f = some ⟨oc, od, .func (fnOf name qual params body scope dV kV doc pm an cdv ct), osl⟩) (hcd : codeIn K cdv qual = true) (hroom : A.depth < recursionLimit)
    (hbind : BindsTo s (fnOf name qual params body scope dV kV doc pm an cdv ct) args binds) (hloc : ∀ y ∈ binds, scope.names.lookup y.1 = some .local)
    (h : ∀ g L' h₁, Fr h₀ L g m → Fr g L' h₁ (fun y => binds.reverse.lookup y) → News g L' h₁ news → Below A base (env :: outer) g → K.In g → Top p loose mean mg mb g →
      wpC (model prog w) (A.deeper (envOf qual scope L' f cdv)) (execs body (envOf qual scope L' f cdv))
        (fun fl s' => LeaveK h₀ L m g R (match fl with | .ret v => v | _ => .none) s')
        (fun e s' => wpAny (model prog w) (A.deeper (envOf qual scope L' f cdv)) (leaving (envOf qual scope L' f cdv) e) (fun _ s'' => R (.error e) s'') (fun e' s'' => R (.error e') s'') s')
        { s with heap := h₁, toks := s.toks + binds.length })
    (hco : scope.isCoroutine = false) (hgen : scope.isGenerator = false) (hk : scope.kind = .function)
    (hcell : ∀ x ∈ scope.names, x.2 ≠ .cell) : codeC (model prog w) A (.call (.ref f) args) R s := by
  obtain ⟨FG, BG, st, lv⟩ := groundX (R := R) B F N hA hf hke
  refine codeC_call_def (fd := fnOf name qual params body scope dV kV doc pm an cdv ct) (body := body) (binds := binds) hroom ((X₀.keeps F.keep) _ _ ho) rfl (T.nolimit.keeps F.keep) (codeRec_of (X₀.keeps F.keep) hcd) rfl hbind hcell hloc (fun h₁ hns hk₁ => ?_) hco hgen hk
  exact wpC_mono (h _ s.heap.objs.size h₁ FG ⟨hns, fun b o e => hk₁ b o (of_hideAll _ e), Nat.le_of_eq (hideAll_size _ _)⟩
    (fun p hp => ⟨hk₁ _ _ (N p hp).1, Nat.ne_of_lt (Heap.lt_size (N p hp).1), hideAll_none _ (List.mem_map_of_mem hp)⟩) BG (X₀.keeps st) (T.keeps st)) (fun fl s' hl => lv _ _ hl) fun _ _ y => y
end
end Mine
end
section
open PySem PySem.W PySem.Calls PyProof.Rows
open Sem (wp)
set_option maxRecDepth 100000
set_option maxHeartbeats 4000000
namespace Mine
theorem resetBarr {M : Model} {A : Around} {env : Env} {x : Str} {v : Value} {Q : Unit → Shared → Prop} {E : Value → Shared → Prop} {s : Shared} (h : wpAny M A (storeName env x v) Q E s) : wpAny M A (storeName env x v) Q E s := by
  w_top off
  k_with_none
  first
    | (walk1; fail)
    | exact h
namespace BF
theorem mro : mroOf (.type "bytearray") = pure [.type "bytearray", .type "object"] := by rw [mroOf_type]; kernel_rfl
theorem lookup_new : typeLookup (.type "bytearray") "__new__" = pure (some (.builtin "bytearray.__new__")) := by rw [typeLookup_type, builtinLookup_eq_fast]; kernel_rfl
theorem slot {name : Str} {n : String} (hl : typeLookup (.type "bytearray") name = pure (some (.builtin ("bytearray." ++ n)))) (h1 : splitId ("bytearray." ++ n) = some ("bytearray", n)) (h2 : withoutEnding? ("bytearray." ++ n) "#opaque" = none)
    (h3 : withoutEnding? ("bytearray." ++ n) "#data" = none) (h4 : (Manifest.find? "bytearray").bind (·.attrs.lookup n) = some .slot ∨ (Manifest.find? "bytearray").bind (·.attrs.lookup n) = some .method) (h5 : plainId ("bytearray." ++ n) = true) : Slot "bytearray" name ("bytearray." ++ n) :=
  .of (owner := "bytearray") (n := n) hl h1 h2 h3 h4 (by rw [isSubtype_type]; kernel_rfl) h5
theorem slot_init : Slot "bytearray" "__init__" "bytearray.__init__" :=
  .of (owner := "bytearray") (n := "__init__") (by rw [typeLookup_type, builtinLookup_eq_fast]; kernel_rfl) (by decide +kernel) (by decide +kernel) (by decide +kernel)
    (by first | exact .inl (by decide +kernel) | exact .inr (by decide +kernel)) (by rw [isSubtype_type]; kernel_rfl)
theorem called : TypeCalled "bytearray" "bytearray.__new__" "bytearray.__init__" :=
  ⟨by decide +kernel, by decide +kernel, ⟨_, _, mro⟩, madeBy_type mro lookup_new (by decide +kernel), by decide +kernel, by rw [isSubtype_type]; kernel_rfl, slot_init⟩
theorem typeCall (a : Value) : checkTypeCall "bytearray" ⟨[a], []⟩ = pure () := by kernel_rfl
theorem newCall (a : Value) : checkBuiltinCall "bytearray.__new__" ⟨[.type "bytearray", a], []⟩ = pure () := by kernel_rfl
theorem plain_new : plainId "bytearray.__new__" = true := by decide +kernel
theorem entry_new : entryFor table "bytearray.__new__" = some Builtin.«list.__new__» := entryFor_alias (id' := "list.__new__") (by kernel_rfl) (by kernel_rfl) (by kernel_rfl) (by kernel_rfl)
theorem entry_init : entryFor table "bytearray.__init__" = some Builtin.«bytearray.__init__» := entryFor_of_tree (by kernel_rfl)
theorem owner_new : ("bytearray.__new__".splitOn ".__new__").headD "" = "bytearray" := by simp +decide [String.splitOn, String.splitOnAux]
theorem sub : isSubtype (.type "bytearray") (.type "bytearray") = pure true := by rw [isSubtype_type]; kernel_rfl
theorem bindOpt (v : Value) : Builtin.Bytes.bindOptional "bytearray.__init__" "bytearray" ["source", "encoding", "errors"] [v] [] = pure [some v, none, none] := by kernel_rfl
theorem args_init (a b : Value) : argsOk "bytearray.__init__" ⟨[a, b], []⟩ := by unfold argsOk; kernel_rfl
theorem release : typeLookup (.type "bytearray") "__release_buffer__" = pure (some (.builtin "bytearray.__release_buffer__")) := by rw [typeLookup_type, builtinLookup_eq_fast]; kernel_rfl
theorem buffer : typeLookup (.type "bytearray") "__buffer__" = pure (some (.builtin "bytearray.__buffer__")) := by rw [typeLookup_type, builtinLookup_eq_fast]; kernel_rfl
theorem b_index : typeLookup (.type "bytes") "__index__" = pure none := by rw [typeLookup_type, builtinLookup_eq_fast]; kernel_rfl
theorem b_buffer : typeLookup (.type "bytes") "__buffer__" = pure (some (.builtin "bytes.__buffer__")) := by rw [typeLookup_type, builtinLookup_eq_fast]; kernel_rfl
theorem b_release : typeLookup (.type "bytes") "__release_buffer__" = pure none := by rw [typeLookup_type, builtinLookup_eq_fast]; kernel_rfl
theorem b_sub : isSubtype (.type "bytes") (.type "bytes") = pure true := by rw [isSubtype_type]; kernel_rfl
theorem ends1 : ("bytearray.__release_buffer__".endsWith ("." ++ "__release_buffer__")) = true := by decide +kernel
theorem drop1 : ("bytearray.__release_buffer__".dropRight ("__release_buffer__".length + 1)) = "bytearray" := by decide +kernel
theorem ends2 : ("bytearray.__buffer__".endsWith ("." ++ "__buffer__")) = true := by decide +kernel
theorem drop2 : ("bytearray.__buffer__".dropRight ("__buffer__".length + 1)) = "bytearray" := by decide +kernel
theorem ends3 : ("bytes.__buffer__".endsWith ("." ++ "__buffer__")) = true := by decide +kernel
theorem drop3 : ("bytes.__buffer__".dropRight ("__buffer__".length + 1)) = "bytes" := by decide +kernel
end BF
section
variable {prog : Program} {w : World} {A : Around} {E : Value → Shared → Prop} {R : Result → Shared → Prop} {s : Shared}
theorem codeC_builtin {id : String} {args : Args} {b : Builtin} (hb : entryFor table id = some b)
    (h : wpC (model prog w) (A.under (.builtin id args)) (b args)
      (fun fin s' => match fin with | .done f => R (.ok f) s' | .again c' => c'.quiet = true ∧ codeC (model prog w) A c' R s') (fun e s' => R (.error e) s') s)
    (hq : dirtyIds.contains id = false := by decide) :
    codeC (model prog w) A (.builtin id args) R s := by
  refine codeC_of_tree ?_ (by show (!dirtyIds.contains id) = true; rw [hq]; rfl)
  show wpC _ _ (match entryFor table id with | some b => b args | none => unsupported ((withoutEnding? id "#data").getD id)) _ _ s
  rw [hb]; exact h
theorem codeC_call_builtin {id : String} {args : Args} {b : Builtin} (hq : plainId id = true) (hb : entryFor table id = some b)
    (h : wpAny (model prog w) A.in1 (checkBuiltinCall id args) (fun _ s₁ => wpC (model prog w) A.in1 (b args)
      (fun fin s' => match fin with | .done f => R (.ok f) s' | .again c' => c'.quiet = true ∧ codeC (model prog w) A c' R s') (fun e s' => R (.error e) s') s₁)
      (fun e s' => R (.error e) s') s) (hd : dirtyIds.contains id = false := by decide) : codeC (model prog w) A (.call (.builtin id) args) R s := by
  refine codeC_of_tree ?_ rfl
  show wpC _ A.in1 (do checkBuiltinCall id args; again (.builtin id args)) _ _ s
  refine wpC_bindA (wpAny_mono h (fun _ s₁ h₁ => wpC_pure (And.intro (plainId_quiet hq args) (codeC_builtin hb ?_ hd))) fun _ _ h' => h')
  rw [Around.under_plainId hq args]; exact h₁
theorem codeC_call_builtin_at {id : String} {args : Args} {b : Builtin} (hq : (Code.builtin id args).quiet = true) (hb : entryFor table id = some b)
    (h : wpAny (model prog w) A.in1 (checkBuiltinCall id args) (fun _ s₁ => wpC (model prog w) (A.under (.builtin id args)) (b args)
      (fun fin s' => match fin with | .done f => R (.ok f) s' | .again c' => c'.quiet = true ∧ codeC (model prog w) A c' R s') (fun e s' => R (.error e) s') s₁)
      (fun e s' => R (.error e) s') s) (hd : dirtyIds.contains id = false := by decide) : codeC (model prog w) A (.call (.builtin id) args) R s := by
  refine codeC_of_tree ?_ rfl
  show wpC _ A.in1 (do checkBuiltinCall id args; again (.builtin id args)) _ _ s
  exact wpC_bindA (wpAny_mono h (fun _ s₁ h₁ => wpC_pure (And.intro hq (codeC_builtin hb h₁ hd))) fun _ _ h' => h')
theorem wpC_ite_false {α : Type} {M : Model} {c : Bool} {a b : Sem α} {Q : α → Shared → Prop} (hc : c = false) (h : wpC M A b Q E s) : wpC M A (if c = true then a else b) Q E s := by
  subst hc; exact h
theorem wpC_ite_true {α : Type} {M : Model} {c : Bool} {a b : Sem α} {Q : α → Shared → Prop} (hc : c = true) (h : wpC M A a Q E s) : wpC M A (if c = true then a else b) Q E s := by
  subst hc; exact h
theorem wpC_orM {M : Model} {a b : Sem Bool} {Q : Bool → Shared → Prop} (h : wpC M A a (fun x s₁ => match x with | true => Q true s₁ | false => wpAny M A b Q E s₁) E s) : wpC M A (a <||> b) Q E s := by
  show wpC M A (orM a b) Q E s
  unfold orM
  refine wpC_bind (wpC_mono h (fun x s₁ h₁ => ?_) fun _ _ y => y)
  cases x
  · exact wpC_of_any h₁
  · exact wpC_pure h₁
/-- a call of a type, whose initialiser is walked in the clean logic -/
theorem callTypeC {T newId initId : String} {Bi : Builtin} {args : List Value} {Q Q₁ : Value → Shared → Prop} (ft : TypeCalled T newId initId)
    (hct : checkTypeCall T ⟨args, []⟩ = pure ()) (entryI : entryFor table initId = some Bi) (hd : dirtyIds.contains initId = false)
    (hnew : codeAny (model prog w) A.in1 (.call (.builtin newId) ⟨.type T :: args, []⟩) (wants Q₁ E) s)
    (hnext : ∀ obj s₁, Q₁ obj s₁ → s₁.TypeIs obj T ∧ argsOk initId ⟨obj :: args, []⟩ ∧
      wpC (model prog w) A.in1.in1 (Bi ⟨obj :: args, []⟩)
        (fun fin s' => match fin with | .done f => wants (fun r s₂ => r = .none ∧ Q obj s₂) E (.ok f) s' | .again c' => c'.quiet = true ∧ codeC (model prog w) A.in1 c' (wants (fun r s₂ => r = .none ∧ Q obj s₂) E) s')
        (fun e s' => wants (fun r s₂ => r = .none ∧ Q obj s₂) E (.error e) s') s₁) :
    wpC (model prog w) A (call (.type T) args) Q E s := by
  obtain ⟨c, tl, hmro⟩ := ft.mro
  refine wpC_call (codeC_of_tree ?_ rfl)
  show wpC _ _ (callAny (.type T) _) _ _ _
  refine wpC_pure ⟨Code.quiet_builtin _ (by decide +kernel), codeC_builtin F.entry_type_call ?_⟩
  rw [Around.under_plain (weight_type_call_type T args []) rfl]
  unfold Builtin.«type.__call__»
  dsimp only
  refine wpC_ite_false ft.notType ?_
  refine wpC_ite_false ft.canCreate ?_
  refine wpC_bind (wpC_of_eq hct ?_)
  refine wpC_bind (wpC_of_eq hmro ?_)
  refine wpC_ite_false rfl ?_
  refine wpC_bind (wpC_of_eq ft.made ?_)
  refine wpC_bind (wpC_pure ?_)
  refine wpC_bindA (wpAny_holding (wpAny_call (codeAny_mono hnew fun r s₁ hr => ?_)))
  rcases r with e | fl
  · exact hr
  obtain ⟨obj, rfl⟩ : ∃ obj, fl = .ret obj := by cases fl <;> first | exact ⟨_, rfl⟩ | exact hr.elim
  obtain ⟨hT, hok, hsi⟩ := hnext _ _ hr
  refine wpC_bindA (wpAny_isInstance hT ft.sub ?_)
  refine wpC_ite_false rfl ?_
  refine wpC_bind (wpC_holding ?_)
  unfold callSpecial?
  refine wpC_bindA (wpAny_specialOf hT ft.init.lookup ?_)
  dsimp only
  refine wpC_holding (wpC_bind (wpC_of_eq (ft.init.bind obj) ?_))
  dsimp only
  refine wpC_bind (wpC_call ?_)
  refine codeC_mono (codeC_call_builtin ft.init.plain entryI (ft.init.check _ _ _ _ _ _ _ _ hT hok hsi) hd) fun r₂ s₂ hr₂ => ?_
  rcases r₂ with e | fl₂
  · exact hr₂
  obtain ⟨r, rfl⟩ : ∃ obj, fl₂ = .ret obj := by cases fl₂ <;> first | exact ⟨_, rfl⟩ | exact hr₂.elim
  obtain ⟨rfl, hq⟩ := hr₂
  exact wpC_pure (wpC_ite_false rfl (wpC_pure hq))
end
end Mine
namespace Mine
section
variable {prog : Program} {w : World} {A : Around} {E : Value → Shared → Prop} {R : Result → Shared → Prop} {s : Shared}
theorem ba_new (a : Value) {Q₁ : Value → Shared → Prop}
    (h : Q₁ (.ref s.heap.objs.size) { s with heap := s.heap.push { cls := .type "bytearray", data := .bytearray #[] } }) :
    codeAny (model prog w) A (.call (.builtin "bytearray.__new__") ⟨[.type "bytearray", a], []⟩) (wants Q₁ E) s := by
  refine codeAny_of_tree ?_
  show wpAny _ A.in1 (do checkBuiltinCall "bytearray.__new__" ⟨[.type "bytearray", a], []⟩; again (.builtin "bytearray.__new__" ⟨[.type "bytearray", a], []⟩)) _ _ s
  refine wpAny_bind (wpAny_of_eq (BF.newCall a) (wpAny_pure ⟨plainId_quiet BF.plain_new _, codeAny_builtin_stack BF.entry_new rfl fun p st => ?_⟩))
  rw [Around.under_plainId BF.plain_new _]
  have hsub := BF.sub
  have hown := BF.owner_new
  obtain ⟨hp, g, d, tk, os⟩ := s
  simp only [hown]
  wp_walk
  exact h
theorem own_ba {x : Addr} {b : Array UInt8} {Q : Bool → Shared → Prop} (hx : s.heap.get? x = some { cls := .type "bytearray", data := .bytearray b 0 }) (h : Q false s) : wpAny (model prog w) A (Builtin.Bytes.ownRelease (.ref x)) Q E s := by
  have hT : s.TypeIs (.ref x) "bytearray" := ⟨_, hx, rfl⟩
  unfold Builtin.Bytes.ownRelease Builtin.Bytes.slotIsOwn
  refine wpAny_bind (wpAny_bind (wpAny_specialOf hT BF.release ?_))
  dsimp only
  rw [BF.ends1]
  simp only [BF.drop1]
  refine wpAny_isInstance hT BF.sub (wpAny_pure ?_)
  exact h

theorem own_bytes {b : Array UInt8} {t : Tok} {Q : Bool → Shared → Prop} (h : Q false s) : wpAny (model prog w) A (Builtin.Bytes.ownRelease (.bytes b t)) Q E s := by
  have hT : s.TypeIs (.bytes b t) "bytes" := PySem.W.typeIs_bytes _ _ _
  unfold Builtin.Bytes.ownRelease Builtin.Bytes.slotIsOwn
  refine wpAny_bind (wpAny_bind (wpAny_specialOf hT BF.b_release ?_))
  exact wpAny_pure (wpAny_pure h)
theorem buffer_bytes {id : String} {b : Array UInt8} {t : Tok} {fl : Bool} {Q : Option (Array UInt8) → Shared → Prop} (h : Q (some b) s) : wpAny (model prog w) A (Builtin.Bytes.buffer? id (.bytes b t) fl) Q E s := by
  have hT : s.TypeIs (.bytes b t) "bytes" := PySem.W.typeIs_bytes _ _ _
  unfold Builtin.Bytes.buffer?
  refine wpAny_bind (wpAny_specialOf hT BF.b_buffer ?_)
  try dsimp only
  refine wpAny_bind ?_
  unfold Builtin.Bytes.slotIsOwn
  refine wpAny_bind (wpAny_specialOf hT BF.b_buffer ?_)
  try dsimp only
  rw [BF.ends3]
  simp only [BF.drop3]
  refine wpAny_isInstance hT BF.b_sub ?_
  refine wpAny_bind (wpAny_specialOf hT BF.b_buffer ?_)
  try dsimp only
  refine wpAny_bind (own_bytes ?_)
  exact wpAny_bind (wpAny_pure (wpAny_pure h))
theorem write_ba {x : Addr} {b : Array UInt8} {f : Array UInt8 → Array UInt8} {Q : Unit → Shared → Prop} (hx : s.heap.get? x = some { cls := .type "bytearray", data := .bytearray b 0 }) (hz : (f b).size ≤ sizeLine)
    (h : Q () { s with heap := s.heap.update x (Obj.mapBytearray f) }) : wpAny (model prog w) A (Builtin.Bytes.write (.ref x) f) Q E s := by
  show wpAny _ _ (updateBytearray x f) _ _ _
  unfold updateBytearray
  refine wpAny_bind (wpAny_load hx ?_)
  show wpAny _ _ (update x (Obj.mapBytearray f) >>= fun _ => lookBehind x) _ _ _
  refine wpAny_bind (wpAny_update hx ?_)
  have hS : (s.heap.update x (Obj.mapBytearray f)).get? x = some { cls := .type "bytearray", data := .bytearray (f b) 0 } := Heap.get?_update_self (Obj.mapBytearray f) hx rfl
  refine wpAny_lookBehind hS ?_ h
  show (if (f b).size > sizeLine then some "bytearray:memory" else none) = none
  rw [if_neg (Nat.not_lt.mpr hz)]
theorem exports_ba {x : Addr} {b : Array UInt8} {Q : Nat → Shared → Prop} (hx : s.heap.get? x = some { cls := .type "bytearray", data := .bytearray b 0 }) (h : Q 0 s) : wpAny (model prog w) A (Builtin.Bytes.exportsOf (.ref x)) Q E s := by
  show wpAny _ _ (load x >>= _) _ _ _
  exact wpAny_bind (wpAny_load hx (wpAny_pure h))
/-- what the initialiser does with a row of bytes -/
theorem ba_init {x : Addr} {c b : Array UInt8} {t : Tok} {Q : Fin → Shared → Prop} {E' : Value → Shared → Prop} (hx : s.heap.get? x = some { cls := .type "bytearray", data := .bytearray c 0 }) (hz : b.size ≤ sizeLine)
    (h : Q (.done (.ret .none)) { s with heap := (s.heap.update x (Obj.mapBytearray fun _ => #[])).update x (Obj.mapBytearray fun _ => b) }) :
    wpC (model prog w) A (Builtin.«bytearray.__init__» ⟨[.ref x, .bytes b t], []⟩) Q E' s := by
  unfold Builtin.«bytearray.__init__»
  try dsimp only
  refine wpC_bindA (own_ba hx ?_)
  refine wpC_ite_false rfl ?_
  refine wpC_bind (wpC_of_eq (BF.bindOpt _) ?_)
  try dsimp only
  refine wpC_bind (wpC_of_eq (a := ()) rfl ?_)
  refine wpC_bind (wpC_of_eq (a := ()) rfl ?_)
  refine wpC_bind (wpC_orM (wpC_exported (wpAny_bind (exports_ba hx (wpAny_pure ?_)))))
  refine wpC_ite_false rfl ?_
  refine wpC_bindA (write_ba hx (by simp [sizeLine_eq]) ?_)
  have hx₁ : (s.heap.update x (Obj.mapBytearray fun _ => #[])).get? x = some { cls := .type "bytearray", data := .bytearray #[] 0 } := Heap.get?_update_self (Obj.mapBytearray fun _ => #[]) hx rfl
  have hT : ∀ s : Shared, s.TypeIs (.bytes b t) "bytes" := fun s => PySem.W.typeIs_bytes _ _ _
  refine wpC_bind (wpC_of_eq (a := none) rfl ?_)
  refine wpC_ite_false rfl ?_
  refine wpC_bind (wpC_ite_false rfl (wpC_ite_false rfl (wpC_pure ?_)))
  refine wpC_bindA (wpAny_specialOf (hT _) BF.b_index ?_)
  refine wpC_ite_false rfl ?_
  refine wpC_bindA (buffer_bytes ?_)
  try dsimp only
  refine wpC_bind (wpC_of_any (wpAny_rule ?_))
  refine wpC_bindA (write_ba hx₁ hz ?_)
  refine wpC_pure ?_
  exact h
end
end Mine
end
section
open PySem PySem.W PySem.Calls PyProof.Rows
open Sem (wp)
set_option maxRecDepth 100000
set_option maxHeartbeats 4000000
namespace Mine
theorem resetBarrN {M : Model} {A : Around} {env : Env} {x : Str} {v : Value} {Q : Unit → Shared → Prop} {E : Value → Shared → Prop} {s : Shared} (h : wpAny M A (storeName env x v) Q E s) : wpAny M A (storeName env x v) Q E s := by
  w_top off
  k_with_none
  first
    | (walk1; fail)
    | exact h
abbrev baObj (b : Array UInt8) : Obj := { cls := .type "bytearray", data := .bytearray b 0 }
theorem fr_ext {h₀ h h' : Heap} {L : Addr} {m : Str → Option Value} (F : Fr h₀ L h m) (k : ∀ b o, h.get? b = some o → h'.get? b = some o) : Fr h₀ L h' m := by
  obtain ⟨o, es, ep, h1, h2, h3, h4⟩ := F.ns
  exact ⟨⟨o, es, ep, k _ _ h1, h2, h3, h4⟩, fun b o e => k _ _ (F.keep b o e), F.above⟩
theorem news_ext {h₀ h h' : Heap} {L : Addr} {l : List (Addr × Obj)} (N : News h₀ L h l) (k : ∀ b o, h.get? b = some o → h'.get? b = some o) : News h₀ L h' l := fun p hp => ⟨k _ _ (N p hp).1, (N p hp).2⟩
section
variable {prog : Program} {w : World} {A : Around} {E : Value → Shared → Prop} {R : Result → Shared → Prop} {s : Shared}
theorem call_ba {b : Array UInt8} {t : Tok} {Q : Value → Shared → Prop} (hz : b.size ≤ sizeLine)
    (h : ∀ h', h'.get? s.heap.objs.size = some (baObj b) → (∀ a o, s.heap.get? a = some o → h'.get? a = some o) → Q (.ref s.heap.objs.size) { s with heap := h' }) :
    wpC (model prog w) A (call (.type "bytearray") [.bytes b t]) Q E s := by
  refine callTypeC (Q₁ := fun v s₁ => v = .ref s.heap.objs.size ∧ s₁ = { s with heap := s.heap.push { cls := .type "bytearray", data := .bytearray #[] } }) BF.called (BF.typeCall _) BF.entry_init (by decide)
    (ba_new _ ⟨rfl, rfl⟩) fun obj s₁ h₁ => ?_
  obtain ⟨rfl, rfl⟩ := h₁
  have hx : (s.heap.push { cls := .type "bytearray", data := .bytearray #[] }).get? s.heap.objs.size = some { cls := .type "bytearray", data := .bytearray #[] 0 } := Heap.get?_push_size _ rfl
  refine ⟨⟨_, hx, rfl⟩, BF.args_init _ _, ba_init hx hz ⟨rfl, ?_⟩⟩
  have hx1 := Heap.get?_update_self (Obj.mapBytearray fun _ => #[]) hx rfl
  have hx2 := Heap.get?_update_self (Obj.mapBytearray fun _ => b) hx1 rfl
  refine h _ hx2 fun a o e => ?_
  have ne : s.heap.objs.size ≠ a := Ne.symm (Nat.ne_of_lt (Heap.lt_size e))
  exact (Heap.get?_update_other _ _ ne).trans ((Heap.get?_update_other _ _ ne).trans (Heap.get?_push_of_some _ e))
theorem call_baN {b : Array UInt8} {t : Tok} {Q : Value → Shared → Prop} {h₀ : Heap} {L : Addr} {m : Str → Option Value} {l : List (Addr × Obj)} (F : Fr h₀ L s.heap m) (N : News h₀ L s.heap l) (hz : b.size ≤ sizeLine)
    (h : ∀ y h', Fr h₀ L h' m → News h₀ L h' ((y, baObj b) :: l) → (∀ p ∈ l, p.1 < y) → Q (.ref y) { s with heap := h' }) :
    wpC (model prog w) A (call (.type "bytearray") [.bytes b t]) Q E s := by
  refine call_ba hz fun h' hy k => ?_
  have hL : L < s.heap.objs.size := by
    obtain ⟨o, es, ep, h1, _⟩ := F.ns
    exact Heap.lt_size h1
  refine h _ h' (fr_ext F k) (fun p hp => ?_) (fun p hp => Heap.lt_size (N p hp).1)
  rcases List.mem_cons.mp hp with rfl | hp
  · exact ⟨hy, Ne.symm (Nat.ne_of_lt hL), Heap.get?_none_of_le (Nat.le_of_lt (Nat.lt_of_le_of_lt F.above hL))⟩
  · exact news_ext N k _ hp
end
end Mine
end
section
open PySem PySem.W PySem.Calls PyProof.Rows PySem.Builtin
open Sem (wp)
set_option maxRecDepth 100000
set_option maxHeartbeats 4000000
namespace Mine
theorem resetBaR {M : Model} {A : Around} {env : Env} {x : Str} {v : Value} {Q : Unit → Shared → Prop} {E : Value → Shared → Prop} {s : Shared} (h : wpAny M A (storeName env x v) Q E s) : wpAny M A (storeName env x v) Q E s := by
  w_top off
  k_with_none
  first
    | (walk1; fail)
    | exact h
namespace BF
theorem slot_len : Slot "bytearray" "__len__" "bytearray.__len__" :=
  .of (owner := "bytearray") (n := "__len__") (by rw [typeLookup_type, builtinLookup_eq_fast]; kernel_rfl) (by decide +kernel) (by decide +kernel) (by decide +kernel)
    (by first | exact .inl (by decide +kernel) | exact .inr (by decide +kernel)) (by rw [isSubtype_type]; kernel_rfl)
theorem slot_getitem : Slot "bytearray" "__getitem__" "bytearray.__getitem__" :=
  .of (owner := "bytearray") (n := "__getitem__") (by rw [typeLookup_type, builtinLookup_eq_fast]; kernel_rfl) (by decide +kernel) (by decide +kernel) (by decide +kernel)
    (by first | exact .inl (by decide +kernel) | exact .inr (by decide +kernel)) (by rw [isSubtype_type]; kernel_rfl)
theorem entry_len : entryFor table "bytearray.__len__" = some Builtin.«bytearray.__len__» := entryFor_of_tree (by kernel_rfl)
theorem entry_getitem : entryFor table "bytearray.__getitem__" = some Builtin.«bytearray.__getitem__» := entryFor_of_tree (by kernel_rfl)
theorem args_len (a : Value) : argsOk "bytearray.__len__" ⟨[a], []⟩ := by unfold argsOk; kernel_rfl
theorem args_getitem (a b : Value) : argsOk "bytearray.__getitem__" ⟨[a, b], []⟩ := by unfold argsOk; kernel_rfl
theorem ba_bytes : typeLookup (.type "bytearray") "__bytes__" = pure none := by rw [typeLookup_type, builtinLookup_eq_fast]; kernel_rfl
theorem ba_index : typeLookup (.type "bytearray") "__index__" = pure none := by rw [typeLookup_type, builtinLookup_eq_fast]; kernel_rfl
end BF
abbrev baO (b : Array UInt8) : Obj := { cls := .type "bytearray", data := .bytearray b 0 }
section
variable {prog : Program} {w : World} {A : Around} {E : Value → Shared → Prop} {R : Result → Shared → Prop} {s : Shared} {b : Array UInt8} {x : Addr} {Q : Value → Shared → Prop}
theorem ba_type (hx : s.heap.get? x = some (baO b)) : s.TypeIs (.ref x) "bytearray" := ⟨_, hx, rfl⟩
theorem ba_payload {Q : Array UInt8 → Shared → Prop} (hx : s.heap.get? x = some (baO b)) (h : Q b s) : wpAny (model prog w) A (Bytes.payload (.ref x)) Q E s := by
  unfold Bytes.payload Bytes.payload?
  refine wpAny_bind (wpAny_bind (wpAny_load hx ?_))
  exact wpAny_pure (wpAny_pure h)
theorem len_ba (hx : s.heap.get? x = some (baO b)) (hz : b.size ≤ 1099511627776) (h : ∀ t k, Q (.int b.size t) { s with toks := k }) : wpAny (model prog w) A (call (.builtin "len") [.ref x]) Q E s := by
  refine call_len_slot (ba_type hx) BF.slot_len (fun Q' hq => ?_) (n := (b.size : Int)) (by omega) (by omega) (h _ _)
  refine wpAny_call (codeAny_call_builtin BF.slot_len.plain BF.entry_len (BF.slot_len.check _ _ _ _ _ _ _ _ (ba_type hx) (BF.args_len _) ?_))
  show wpAny _ _ (Bytes.payload (.ref x) >>= fun r => _) _ _ _
  refine wpAny_bind (ba_payload hx ?_)
  exact wpAny_bind (wpAny_mkInt (wpAny_pure hq))
theorem meets_slice_ba {a : Addr} {l u : Value} {lo hi : Option Int} (hl : IsPart l lo) (hu : IsPart u hi) :
    Meets («bytearray.__getitem__» ⟨[.ref x, .ref a], []⟩) (fun _ R s => s.heap.get? x = some (baO b) ∧ s.heap.IsSliceOf a l u .none ∧ (KBy.picked b lo hi).size ≤ sizeLine ∧ R (.ok (.ret (.ref s.heap.objs.size))) { s with heap := s.heap.push (baO (KBy.picked b lo hi)) }) := by
  refine .of_wp fun prog w A R s hS => ?_
  obtain ⟨hx, ⟨o, ho, hc, hd⟩, hsz, h⟩ := hS
  have hT : s.TypeIs (.ref a) "slice" := ⟨o, ho, hc⟩
  show wpAny _ _ (Bytes.subscript? (.ref a) >>= fun r => _) _ _ s
  refine wpAny_bind ?_
  unfold Bytes.subscript?
  refine wpAny_bind (wpAny_specialOf hT slice_no_index (wpAny_pure ?_))
  refine wpAny_bind (wpAny_typeOf hT ?_)
  show wpAny _ _ (Bytes.sliceParts (.ref a) >>= fun r => _) _ _ s
  refine wpAny_bind ?_
  unfold Bytes.sliceParts
  refine wpAny_bind (wpAny_field (x := .none) ho hd rfl ?_)
  kby_none
  refine wpAny_ite (KBy.ite_no (show ¬ ((Value.none == rawInt 0) = true) from Bool.false_ne_true) ?_)
  refine wpAny_bind (wpAny_field (x := l) ho hd rfl ?_)
  have go : wpAny (model prog w) A.in1 (sliceIndices (rawPart lo) (rawPart hi) (rawPart none) b.size) (fun r s' => r = sliceBounds lo hi none b.size ∧ s' = s) (fun _ _ => False) s :=
    wpAny_of_eq (sliceIndices_raw lo hi none b.size (fun e => nomatch e)) ⟨rfl, rfl⟩
  cases hl <;> cases hu <;> (first
    | (kby_none; (refine wpAny_bind (wpAny_field (x := .none) ho hd rfl ?_)); kby_none)
    | (kby_none; (refine wpAny_bind (wpAny_field (x := .int _ _) ho hd rfl ?_)); kby_int)
    | (kby_int; (refine wpAny_bind (wpAny_field (x := .none) ho hd rfl ?_)); kby_none)
    | (kby_int; (refine wpAny_bind (wpAny_field (x := .int _ _) ho hd rfl ?_)); kby_int)) <;> refine wpAny_pure ?_
  all_goals
    refine wpAny_bind (ba_payload hx ?_)
    refine wpAny_bind (wpAny_mono go (fun r s' hr => ?_) fun _ _ e => e.elim)
    obtain ⟨hr1, hr2⟩ := hr
    subst hr1 hr2
    refine wpAny_bind ?_
    unfold Bytes.newBytearray
    refine wpAny_newObj_type ?_ ?_
    · exact wpAny_pure ⟨_, rfl, h⟩
    · exact hsz
theorem buffer_ba {id : String} {fl : Bool} {Q : Option (Array UInt8) → Shared → Prop} (hx : s.heap.get? x = some (baO b)) (h : Q (some b) s) : wpAny (model prog w) A (Bytes.buffer? id (.ref x) fl) Q E s := by
  have hT := ba_type hx
  unfold Bytes.buffer?
  refine wpAny_bind (wpAny_specialOf hT BF.buffer ?_)
  refine wpAny_bind ?_
  unfold Bytes.slotIsOwn
  refine wpAny_bind (wpAny_specialOf hT BF.buffer ?_)
  dsimp only
  rw [BF.ends2]
  simp only [BF.drop2]
  refine wpAny_isInstance hT BF.sub ?_
  refine wpAny_bind (wpAny_specialOf hT BF.buffer ?_)
  refine wpAny_bind (own_ba hx ?_)
  exact wpAny_bind (ba_payload hx (wpAny_pure h))
theorem bytes_ba (hx : s.heap.get? x = some (baO b)) (hz : b.size ≤ sizeLine) (h : ∀ t k, Q (.bytes b t) { s with toks := k }) : wpAny (model prog w) A (call (.type "bytes") [.ref x]) Q E s := by
  have new : codeAny (model prog w) A.in1 (.call (.builtin "bytes.__new__") ⟨[.type "bytes", .ref x], []⟩) (wants (fun obj s₁ => s₁.TypeIs obj "bytes" ∧ Q obj s₁) E) s := by
    refine codeAny_of_tree ?_
    show wpAny _ A.in1.in1 (do checkBuiltinCall "bytes.__new__" ⟨[.type "bytes", .ref x], []⟩; again (.builtin "bytes.__new__" ⟨[.type "bytes", .ref x], []⟩)) _ _ s
    refine wpAny_bind (wpAny_of_eq (F.bm_newCall _) (wpAny_pure ⟨plainId_quiet F.bm_plain _, codeAny_builtin F.bm_entry ?_⟩))
    rw [Around.under_plainId F.bm_plain _]
    have hT := ba_type hx
    unfold Builtin.«bytes.__new__»
    refine wpAny_bind (wpAny_of_eq (a := true) rfl ?_)
    refine bm_if_false rfl ?_
    refine wpAny_bind (wpAny_of_eq F.bm_sub ?_)
    refine bm_if_false rfl ?_
    refine wpAny_bind (wpAny_of_eq (F.bm_bind _) ?_)
    refine wpAny_bind (wpAny_of_eq (a := ()) rfl ?_)
    refine wpAny_bind (wpAny_of_eq (a := ()) rfl ?_)
    refine bm_if_false rfl ?_
    refine wpAny_bind (wpAny_specialOf hT BF.ba_bytes ?_)
    refine wpAny_bind (wpAny_bind ?_)
    show wpAny _ _ (load x >>= _) _ _ _
    refine wpAny_bind (wpAny_load hx ?_)
    refine wpAny_pure (wpAny_pure ?_)
    refine bm_if_false rfl ?_
    refine wpAny_bind (wpAny_specialOf hT BF.ba_index ?_)
    refine bm_if_true rfl ?_
    show wpAny _ _ (Bytes.buffer? "bytes.__new__" (.ref x) true >>= _) _ _ _
    refine wpAny_bind (buffer_ba hx ?_)
    refine wpAny_bind (wpAny_rule ?_)
    refine wpAny_bind (wpAny_mkBytes ?_ hz)
    show wpAny _ _ (if (Value.type "bytes" == Value.type "bytes") = true then _ else _) _ _ _
    refine bm_if_true (by decide) ?_
    first
      | exact wpAny_pure ⟨PySem.W.typeIs_bytes _ _ _, h _ _⟩
      | exact wpAny_pure (wpAny_pure ⟨PySem.W.typeIs_bytes _ _ _, h _ _⟩)
      | exact wpAny_bind (wpAny_pure (wpAny_pure (wpAny_pure ⟨PySem.W.typeIs_bytes _ _ _, h _ _⟩)))
  refine callType_codes (Q₁ := fun obj s₁ => s₁.TypeIs obj "bytes" ∧ Q obj s₁) F.bm_called (F.bm_typeCall _) F.entry_object_init new fun obj s₁ h₁ => ?_
  exact ⟨h₁.1, F.args_object_init_2 obj _, object_init_meets F.bm_called.init.lookup F.bm_called.made (by decide) prog w A.in1 _ s₁ ⟨h₁.1, rfl, h₁.2⟩⟩
end
section
variable {prog : Program} {w : World} {A : Around} {E : Value → Shared → Prop} {s : Shared} {value slice : Expr} {h₀ : Heap} {L x : Addr} {m : Str → Option Value} {news : List (Addr × Obj)} {b : Array UInt8} {Q : Value → Shared → Prop}
theorem cut_baN {l u : Value} {lo hi : Option Int} (hF : Fr h₀ L s.heap m) (hN : News h₀ L s.heap news) (hm : (x, baObj b) ∈ news) (hl : IsPart l lo) (hu : IsPart u hi) (hz : b.size ≤ 16777216)
    (h : ∀ y h' k, Fr h₀ L h' m → News h₀ L h' ((y, baObj (KBy.picked b lo hi)) :: news) → Q (.ref y) { s with heap := h', toks := k })
    (hs : subscripted slice false (.ref x) (.ref s.heap.objs.size) = operate [.ref s.heap.objs.size, .ref x] (getItem (.ref x) (.ref s.heap.objs.size)) := by with_unfolding_all rfl)
    (ht : ∀ r, letTemporaryGo value (.ref x) r = pure () := by intro _; with_unfolding_all rfl) :
    wpAny (model prog w) A (subscriptTail value slice (.ref x) (.ref s.heap.objs.size)) Q E { s with heap := s.heap.push { cls := .type "slice", data := .fields #[l, u, .none] } } := by
  have hx : (s.heap.push { cls := .type "slice", data := .fields #[l, u, .none] }).get? x = some (baO b) := Heap.get?_push_of_some _ (hN _ hm).1
  refine tail_of_ItemOn ⟨"bytearray", _, BF.slot_getitem.lookup, ba_type hx, getItem_meets (ba_type hx) (by decide) BF.slot_getitem BF.entry_getitem (BF.args_getitem _ _) (meets_slice_ba (b := b) hl hu)
    ⟨hx, Heap.IsSliceOf.new _ _ _ _, Nat.le_trans (KBc.size_picked_le b lo hi) (by rw [sizeLine_eq]; exact hz), ?_⟩⟩ hs ht
  exact h _ _ _ ((hF.push _).push _) ((News.pushKeep hN _).push (hF.push _) _)
theorem len_baN (hN : News h₀ L s.heap news) (hm : (x, baObj b) ∈ news) (hz : b.size ≤ 16777216) (h : ∀ t k, Q (.int b.size t) { s with toks := k }) : wpAny (model prog w) A (call (.builtin "len") [.ref x]) Q E s :=
  len_ba (hN _ hm).1 (Nat.le_trans hz (by decide)) h
theorem bytes_baN (hN : News h₀ L s.heap news) (hm : (x, baObj b) ∈ news) (hz : b.size ≤ 16777216) (h : ∀ t k, Q (.bytes b t) { s with toks := k }) : wpAny (model prog w) A (call (.type "bytes") [.ref x]) Q E s :=
  bytes_ba (hN _ hm).1 (by rw [sizeLine_eq]; exact hz) h
end
end Mine
end
section
open PySem PySem.W PySem.Calls PyProof.Rows PySem.Builtin
open Sem (wp)
set_option maxRecDepth 100000
set_option maxHeartbeats 4000000
namespace Mine
theorem resetUnp {M : Model} {A : Around} {env : Env} {x : Str} {v : Value} {Q : Unit → Shared → Prop} {E : Value → Shared → Prop} {s : Shared} (h : wpAny M A (storeName env x v) Q E s) : wpAny M A (storeName env x v) Q E s := by
  w_top off
  k_with_none
  first
    | (walk1; fail)
    | exact h
namespace UF
theorem kind : builtinKind "_struct.unpack" = none := by decide +kernel
theorem plain : plainId "_struct.unpack" = true := by decide +kernel
theorem entry : entryFor table "_struct.unpack" = some Builtin.«_struct.unpack» := entryFor_of_tree (by kernel_rfl)
theorem args (a b : Value) : argsOk "_struct.unpack" ⟨[a, b], []⟩ := by unfold argsOk; kernel_rfl
def fB : PySem.Builtin.Struct.Format := { bigEndian := false, native := true, codes := [⟨'B', 1, 0, 1⟩], size := 1, items := 1 }
theorem fmt (t : Tok) : PySem.Builtin.Struct.moduleFormat (.str (Str.ofString "B") t) = pure fB := by kernel_rfl
theorem out (b : Array UInt8) : PySem.Builtin.Struct.unpacked "_struct.unpack" fB b 0 = (do let v ← mkInt ((PySem.Builtin.Struct.natOf false (b.extract 0 1) : Nat) : Int); newTuple [v]) := by kernel_rfl
end UF
section
variable {prog : Program} {w : World} {A : Around} {E : Value → Shared → Prop} {s : Shared} {b : Array UInt8} {t tb : Tok} {Q : Value → Shared → Prop}
theorem unpackB (hb : b.size = 1) (h : Q (.ref s.heap.objs.size) { s with heap := s.heap.push { cls := .type "tuple", data := .seq #[.int ((PySem.Builtin.Struct.natOf false (b.extract 0 1) : Nat) : Int) s.toks] }, toks := s.toks + 1 }) :
    wpAny (model prog w) A (call (.builtin "_struct.unpack") [.str (Str.ofString "B") t, .bytes b tb]) Q E s := by
  refine call_function_entry UF.kind UF.plain UF.entry (UF.args _ _) ?_
  unfold Builtin.«_struct.unpack»
  refine wpAny_bind (wpAny_of_eq (a := ()) rfl ?_)
  refine wpAny_bind (wpAny_of_eq (a := ()) (by kernel_rfl) ?_)
  refine wpAny_bind (wpAny_of_eq (UF.fmt t) ?_)
  unfold PySem.Builtin.Struct.unpackExact Bytes.bytesLike
  refine wpAny_bind (wpAny_bind (buffer_bytes (wpAny_pure ?_)))
  refine wpAny_bind (wpAny_pure ?_)
  refine bm_if_false (by show (b.size != 1) = false; rw [hb]; rfl) ?_
  rw [UF.out]
  refine wpAny_bind (wpAny_bind (wpAny_mkInt (wpAny_newTuple ?_ (by show 1 ≤ sizeLine; rw [sizeLine_eq]; decide))))
  exact wpAny_pure ⟨_, rfl, h⟩
theorem unpackBN {h₀ : Heap} {L : Addr} {m : Str → Option Value} {news : List (Addr × Obj)} (F : Fr h₀ L s.heap m) (N : News h₀ L s.heap news) (hb : b.size = 1)
    (h : ∀ y t' h' k, Fr h₀ L h' m → News h₀ L h' ((y, ({ cls := .type "tuple", data := .seq [Value.int ((PySem.Builtin.Struct.natOf false (b.extract 0 1) : Nat) : Int) t'].toArray } : Obj)) :: news) → (∀ p ∈ news, p.1 < y) → Q (.ref y) { s with heap := h', toks := k }) :
    wpAny (model prog w) A (call (.builtin "_struct.unpack") [.str (Str.ofString "B") t, .bytes b tb]) Q E s :=
  unpackB hb (h _ _ _ _ (F.push _) (N.push F _) fun p hp => Heap.lt_size (N p hp).1)
end
end Mine
end
section
open PySem PySem.W PyProof.Rows PySem.Builtin

namespace Mine
theorem bitNot_eq (x : Int) : bitNot x = -x - 1 := by first | rfl | (unfold bitNot; omega)
theorem bitOr_nat (a b : Nat) : bitOr (a : Int) (b : Int) = ((a ||| b : Nat) : Int) := by
  unfold bitOr bitAnd
  have ha : decide (0 ≤ bitNot (a : Int)) = false := decide_eq_false (by rw [bitNot_eq]; omega)
  have hb : decide (0 ≤ bitNot (b : Int)) = false := decide_eq_false (by rw [bitNot_eq]; omega)
  rw [ha, hb]
  simp only [bitNot_eq]
  rw [show (-(-(a : Int) - 1) - 1) = a by omega, show (-(-(b : Int) - 1) - 1) = b by omega, Int.toNat_natCast, Int.toNat_natCast]
  omega
theorem bitAnd_nat (a b : Nat) : bitAnd (a : Int) (b : Int) = ((a &&& b : Nat) : Int) := by
  unfold bitAnd
  rw [decide_eq_true (by omega : (0 : Int) ≤ (a : Int)), decide_eq_true (by omega : (0 : Int) ≤ (b : Int))]
  rfl
theorem bitOr_shift {x k : Int} {j : Nat} (hx : 0 ≤ x) (h0 : 0 ≤ k) (h1 : k < 2 ^ j) : bitOr (x * 2 ^ j) k = x * 2 ^ j + k := by
  obtain ⟨a, rfl⟩ := Int.eq_ofNat_of_zero_le hx
  obtain ⟨c, rfl⟩ := Int.eq_ofNat_of_zero_le h0
  have h2 : c < 2 ^ j := by
    have : ((2 ^ j : Nat) : Int) = (2 : Int) ^ j := by push_cast; rfl
    omega
  have e : ((a : Int) * 2 ^ j) = ((2 ^ j * a : Nat) : Int) := by push_cast; exact Int.mul_comm _ _
  rw [e, bitOr_nat, ← Nat.two_pow_add_eq_or_of_lt h2]
  push_cast
  rfl
theorem bitOr_shift' {x k : Int} {j : Nat} (hx : 0 ≤ x) (h0 : 0 ≤ k) (h1 : k < 2 ^ j) : bitOr k (x * 2 ^ j) = x * 2 ^ j + k := by
  obtain ⟨a, rfl⟩ := Int.eq_ofNat_of_zero_le hx
  obtain ⟨c, rfl⟩ := Int.eq_ofNat_of_zero_le h0
  have h2 : c < 2 ^ j := by
    have : ((2 ^ j : Nat) : Int) = (2 : Int) ^ j := by push_cast; rfl
    omega
  have e : ((a : Int) * 2 ^ j) = ((2 ^ j * a : Nat) : Int) := by push_cast; exact Int.mul_comm _ _
  rw [e, bitOr_nat, Nat.or_comm, ← Nat.two_pow_add_eq_or_of_lt h2]
  push_cast
  rfl
theorem bitAnd_mask {x : Int} {j : Nat} (hx : 0 ≤ x) : bitAnd x (2 ^ j - 1) = x % 2 ^ j := by
  obtain ⟨a, rfl⟩ := Int.eq_ofNat_of_zero_le hx
  have hp : 0 < 2 ^ j := Nat.two_pow_pos j
  have e : ((2 : Int) ^ j - 1) = ((2 ^ j - 1 : Nat) : Int) := by
    have : ((2 ^ j : Nat) : Int) = (2 : Int) ^ j := by push_cast; rfl
    omega
  rw [e, bitAnd_nat, Nat.and_two_pow_sub_one_eq_mod]
  push_cast
  rfl
abbrev fold256 (l : List Int) : Int := l.foldl (fun a k => a * 256 + k) 0
theorem fold_turn {pre : List Int} {k x : Int} (h : 0 ≤ x ∧ x = pre.foldl (fun a k => a * 256 + k) 0) (h0 : 0 ≤ k) (h1 : k < 256) :
    0 ≤ bitOr (x * 2 ^ (8 : Int).toNat) k ∧ bitOr (x * 2 ^ (8 : Int).toNat) k = (pre ++ [k]).foldl (fun a k => a * 256 + k) 0 := by
  rw [List.foldl_append, List.foldl_cons, List.foldl_nil, ← h.2, show (8 : Int).toNat = 8 from rfl, bitOr_shift (j := 8) h.1 h0 (by omega)]
  omega
end Mine
end
section
open PySem PySem.W PySem.Calls PyProof.Rows PySem.W.KBw
set_option maxRecDepth 100000
set_option maxHeartbeats 4000000
namespace Mine
theorem resetEnumB {M : Model} {A : Around} {env : Env} {x : Str} {v : Value} {Q : Unit → Shared → Prop} {E : Value → Shared → Prop} {s : Shared} (h : wpAny M A (storeName env x v) Q E s) : wpAny M A (storeName env x v) Q E s := by
  w_top off
  k_with_none
  first
    | (walk1; fail)
    | exact h
section
variable {prog : Program} {w : World} {A : Around} {E : Value → Shared → Prop} {s : Shared} {b : Array UInt8} {t : Tok}
theorem nextOf_b {it : Addr} {i : Nat} {c : UInt8} {Q : Value → Shared → Prop} (hit : IsBytesIter s.heap it b t i) (hx : b[i]? = some c)
    (hQ : ∀ h', IsBytesIter h' it b t (i + 1) → Heap.SameBut it s.heap h' → Q (.int (c.toNat : Int) s.toks) { s with heap := h', toks := s.toks + 1 }) : wpAny (model prog w) A (Builtin.SmallTypes.nextOf (.ref it)) Q E s := by
  obtain ⟨o, ho, hc, hd⟩ := id hit
  unfold Builtin.SmallTypes.nextOf
  refine wpAny_bind (wpAny_callSpecial?_slot (name := PySem.Str.ofString "__next__") (iter_typeIs hit) slot_next
    (wpAny_call_entry slot_next (iter_typeIs hit) entry_next ?_ (args_next _)))
  show wpAny _ _ (field (.ref it) 0 >>= _) _ _ s
  refine wpAny_bind (wpAny_field ho hd (x := .bytes b t) rfl ?_)
  show wpAny _ _ (if (Value.bytes b t == Value.none) = true then _ else _) _ _ s
  rw [if_neg (show ¬ ((Value.bytes b t == Value.none) = true) from Bool.false_ne_true)]
  show wpAny _ _ (field (.ref it) 1 >>= _) _ _ s
  refine wpAny_bind (wpAny_field ho hd (x := .int i 0) rfl ?_)
  refine wpAny_bind (wpAny_of_eq (a := b) rfl ?_)
  simp only [Int.toNat_natCast, hx]
  refine wpAny_bind (wpAny_setField ho hd (by simp) (wpAny_bind (wpAny_mkInt (wpAny_pure ⟨_, rfl, wpAny_pure (hQ _ ?_ (Heap.SameBut.update ..))⟩))))
  exact ⟨_, Heap.get?_update_self _ ho (Obj.isFreed_of_fields (Obj.data_mapFields hd _)), (Obj.cls_mapFields ..).trans hc, by
    rw [Obj.data_mapFields hd]; simp [rawInt]⟩
theorem nextOf_b_end {it : Addr} {i : Nat} {Q : Value → Shared → Prop} (hh : A.handled = none) (hit : IsBytesIter s.heap it b t i) (hx : b[i]? = none)
    (hE : ∀ h' e, Heap.ExtBut it s.heap h' → (∃ o, h'.get? e = some o ∧ o.cls = .type "StopIteration") → E (.ref e) { s with heap := h' }) :
    wpAny (model prog w) A (Builtin.SmallTypes.nextOf (.ref it)) Q E s := by
  obtain ⟨o, ho, hc, hd⟩ := id hit
  unfold Builtin.SmallTypes.nextOf
  refine wpAny_bind (wpAny_callSpecial?_slot (name := PySem.Str.ofString "__next__") (iter_typeIs hit) slot_next
    (wpAny_call_entry slot_next (iter_typeIs hit) entry_next ?_ (args_next _)))
  show wpAny _ _ (field (.ref it) 0 >>= _) _ _ s
  refine wpAny_bind (wpAny_field ho hd (x := .bytes b t) rfl ?_)
  show wpAny _ _ (if (Value.bytes b t == Value.none) = true then _ else _) _ _ s
  rw [if_neg (show ¬ ((Value.bytes b t == Value.none) = true) from Bool.false_ne_true)]
  show wpAny _ _ (field (.ref it) 1 >>= _) _ _ s
  refine wpAny_bind (wpAny_field ho hd (x := .int i 0) rfl ?_)
  refine wpAny_bind (wpAny_of_eq (a := b) rfl ?_)
  simp only [Int.toNat_natCast, hx]
  refine wpAny_bind (wpAny_rule (wpAny_bind (wpAny_setField ho hd (by simp) ?_)))
  show wpAny _ _ (newExc (.type "StopIteration") [] >>= _) _ _ _
  refine wpAny_bind ?_
  simp only [newExc, newTuple]
  refine wpAny_bind (wpAny_newObj_type ?_ (by size_fits))
  refine wpAny_bind (m := firstArgMember _ _) (wpAny_of_eq (a := Value.none) (by first | rfl | (simp only [firstArgMember]; rfl)) ?_)
  refine wpAny_newObj_type ?_ (by size_fits)
  simp only [raiseNew]
  refine wpAny_bind (wpAny_handled ?_)
  first | rw [show A.in1.handled = none from hh] | rw [hh]
  refine wpAny_bind (wpAny_pure (wpAny_throw ?_))
  exact hE _ _ (((Heap.SameBut.update ..).extBut.push _).push _) ⟨_, Heap.get?_push_size _ rfl, rfl⟩
end
theorem drawsB {prog : Program} {w : World} {A : Around} (hh : A.handled = none) (it : Addr) (b : Array UInt8) (t : Tok) :
    Draws prog w A it [it] b.size (fun i v => ∃ c u, b[i]? = some c ∧ v = .int ((c : UInt8).toNat : Int) u) (fun i h => IsBytesIter h it b t i) where
  live := fun _ _ st => let ⟨o, ho, _⟩ := st; ⟨o, ho⟩
  frame := fun _ _ _ st hk => let ⟨o, ho, r⟩ := st; ⟨o, hk it (by simp) o ho, r⟩
  item := fun i s Q E hi st hQ => by
    refine nextOf_b st (c := b[i]) (by simp [hi]) fun h' hit' hs' => ?_
    exact hQ _ h' (s.toks + 1) ⟨_, _, by simp [hi], rfl⟩ hit' hs'
  done := fun s Q E st hE => nextOf_b_end hh st (by simp) hE
theorem meets_enumB (b : Array UInt8) (t : Tok) :
    Meets (Builtin.«enumerate.__new__» ⟨[.type "enumerate", .bytes b t], []⟩) (fun _ R s =>
      R (.ok (.ret (.ref (s.heap.push { cls := .type "bytes_iterator", data := .fields #[.bytes b t, .int 0 0] }).objs.size)))
        { s with heap := (s.heap.push { cls := .type "bytes_iterator", data := .fields #[.bytes b t, .int 0 0] }).push { cls := .type "enumerate", data := .fields #[.none, .bool false, .ref s.heap.objs.size, rawInt 0, .none, .none] } }) :=
  .of_wp fun prog w A R s h => by
    obtain ⟨hp, g, d, tk, os⟩ := s
    have hsub := sub_enumerate
    wp_walk
    refine wpAny_stack_any fun st => wpAny_pure ?_
    split
    · rename_i c _ _ _ _ _
      cases (c == Value.type "enumerate")
      · wp_walk using pyIter_bytes
        exact ⟨_, rfl, h⟩
      · wp_walk using pyIter_bytes
        exact ⟨_, rfl, h⟩
    · wp_walk using pyIter_bytes
      exact ⟨_, rfl, h⟩
section
variable {prog : Program} {w : World} {A : Around} {E : Value → Shared → Prop} {s : Shared} {h₀ : Heap} {L : Addr} {m : Str → Option Value} {news : List (Addr × Obj)}
theorem call_enumB0 {b : Array UInt8} {t : Tok} {Q : Value → Shared → Prop}
    (h : ∀ h', IsEnum h' (s.heap.objs.size + 1) s.heap.objs.size 0 .none → IsBytesIter h' s.heap.objs.size b t 0 → h'.objs.size = s.heap.objs.size + 2 →
      (∀ b o, s.heap.get? b = some o → h'.get? b = some o) → Q (.ref (s.heap.objs.size + 1)) { s with heap := h' }) :
    wpAny (model prog w) A (call (.type "enumerate") [.bytes b t]) Q E s := by
  refine callType_new F.called_enumerate (by decide) (F.typeCall_enumerate_1 _) (F.newCall_enumerate_1 _) (fun obj => F.args_object_init_2 obj _) F.entry_enumerate_new
    (meets_enumB b t) ?_
  have hz : (s.heap.push { cls := .type "bytes_iterator", data := .fields #[.bytes b t, .int 0 0] }).objs.size = s.heap.objs.size + 1 := Heap.size_push ..
  show _ ∧ _
  rw [hz]
  have he : IsEnum ((s.heap.push { cls := .type "bytes_iterator", data := .fields #[.bytes b t, .int 0 0] }).push
      { cls := .type "enumerate", data := .fields #[.none, .bool false, .ref s.heap.objs.size, rawInt 0, .none, .none] }) (s.heap.objs.size + 1) s.heap.objs.size 0 .none := by
    have := Heap.get?_push_size (s.heap.push { cls := .type "bytes_iterator", data := .fields #[.bytes b t, .int 0 0] })
      (o := { cls := .type "enumerate", data := .fields #[.none, .bool false, .ref s.heap.objs.size, rawInt 0, .none, .none] }) rfl
    rw [hz] at this; exact this
  refine ⟨⟨_, he, rfl⟩, h _ he ⟨_, Heap.get?_push_of_some _ (Heap.get?_push_size _ rfl), rfl, rfl⟩ (by rw [Heap.size_push, hz]) fun b o y => Heap.get?_push_of_some _ (Heap.get?_push_of_some _ y)⟩
theorem call_enumB {b : Array UInt8} {t : Tok} {ks : List Int} {Q : Value → Shared → Prop} (hh : A.handled = none) (hk : bInts b = ks) (F : Fr h₀ L s.heap m) (N : News h₀ L s.heap news)
    (h : ∀ h' e, Fr h₀ L h' m → News h₀ L h' news → PairSrcL prog w A E h₀ L ItemKind.int ks (.ref e) { s with heap := h' } m news → Q (.ref e) { s with heap := h' }) :
    wpAny (model prog w) A (call (.type "enumerate") [.bytes b t]) Q E s := by
  have hLs : L < s.heap.objs.size := F.ns.lt
  have hab : h₀.objs.size ≤ L := F.above
  refine call_enumB0 fun h' he hit hsz hk' => ?_
  have F' : Fr h₀ L h' m := ⟨F.ns.keeps hk', fun b o e => hk' b o (F.keep b o e), F.above⟩
  have N' : News h₀ L h' news := fun p hp => ⟨hk' _ _ (N p hp).1, (N p hp).2⟩
  refine h h' _ F' N' fun env hL => ?_
  subst hL
  have side1 : s.heap.objs.size + 1 ∉ [s.heap.objs.size] := fun hm => Nat.succ_ne_self _ (List.mem_singleton.mp hm)
  have side2 : env.locals ∉ [s.heap.objs.size + 1, s.heap.objs.size] := fun hm => by
    rcases List.mem_cons.mp hm with e | hm
    · exact Nat.ne_of_lt (Nat.lt_succ_of_lt hLs) e
    · exact Nat.ne_of_lt hLs (List.mem_singleton.mp hm)
  have side3 : ∀ b ∈ [s.heap.objs.size + 1, s.heap.objs.size], ∀ q ∈ news, b ≠ q.1 := fun b hb q hq e => by
    have hq1 : q.1 < s.heap.objs.size := Heap.lt_size (N q hq).1
    rcases List.mem_cons.mp hb with e1 | hb
    · exact Nat.ne_of_gt (Nat.lt_succ_of_lt hq1) (e1.symm.trans e)
    · exact Nat.ne_of_gt hq1 ((List.mem_singleton.mp hb).symm.trans e)
  subst hk
  exact enumSrc (drawsB (A := A.in1) hh s.heap.objs.size b t) he hit (Nat.succ_ne_self _) side1 (by simp) side2 (Heap.get?_none_of_le (Nat.le_trans hab (Nat.le_of_lt (Nat.lt_succ_of_lt hLs)))) (Heap.get?_none_of_le (Nat.le_trans hab (Nat.le_of_lt hLs))) side3 (ints_length b).symm
    (fun i v hv => by
      obtain ⟨c, u, hc, rfl⟩ := hv
      exact ⟨_, ints_get hc, u, rfl⟩) F' N'
end
end Mine
end
section
open PySem PySem.W PySem.Calls PyProof.Rows PySem.Builtin
set_option maxRecDepth 100000
set_option maxHeartbeats 4000000
namespace Mine
theorem resetReprB {M : Model} {A : Around} {env : Env} {x : Str} {v : Value} {Q : Unit → Shared → Prop} {E : Value → Shared → Prop} {s : Shared} (h : wpAny M A (storeName env x v) Q E s) : wpAny M A (storeName env x v) Q E s := by
  w_top off
  k_with_none
  first
    | (walk1; fail)
    | exact h
namespace RB
theorem slot : Slot "bytes" "__repr__" "bytes.__repr__" :=
  .of (owner := "bytes") (n := "__repr__") (by rw [typeLookup_type, builtinLookup_eq_fast]; kernel_rfl) (by decide +kernel) (by decide +kernel) (by decide +kernel)
    (by first | exact .inl (by decide +kernel) | exact .inr (by decide +kernel)) (by rw [isSubtype_type]; kernel_rfl)
theorem entry : entryFor table "bytes.__repr__" = some Builtin.«bytes.__repr__» := entryFor_of_tree (by kernel_rfl)
theorem args (a : Value) : argsOk "bytes.__repr__" ⟨[a], []⟩ := by unfold argsOk; kernel_rfl
theorem asked {b : Array UInt8} (h : b.size ≤ 100000) : Bytes.literalAsked b = pure (Bytes.literal b) := by
  unfold Bytes.literalAsked
  have e : Bytes.tooLong (4 * b.size + 3) = false := by unfold Bytes.tooLong; rw [decide_eq_false_iff_not, sizeLine_eq]; omega
  simp [e]
end RB
section
variable {prog : Program} {w : World} {A : Around} {E : Value → Shared → Prop} {s : Shared} {b : Array UInt8} {t : Tok} {Q : Value → Shared → Prop}
theorem repr_bytes (hb : b.size ≤ 100000) (hl : (Bytes.literal b).length ≤ sizeLine) (h : Q (.str (Bytes.literal b) s.toks) { s with toks := s.toks + 1 }) : wpAny (model prog w) A (pyReprObj (.bytes b t)) Q E s := by
  refine wpAny_pyReprObj_gives (x := Bytes.literal b) (PySem.W.typeIs_bytes _ _ _) RB.slot RB.entry (RB.args _) ?_ h (hx := hl)
  intro prog w A R s h
  unfold Builtin.«bytes.__repr__»
  refine wpAny_bind (wpAny_of_eq (a := (Value.bytes b t, [])) rfl ?_)
  refine wpAny_bind (wpAny_of_eq (a := b) rfl ?_)
  refine wpAny_bind (wpAny_of_eq (RB.asked hb) ?_)
  exact wpAny_bind (wpAny_mkStr (wpAny_pure h.2) hl)
end
end Mine
end
section
open PySem PySem.W PySem.Calls PyProof.Rows
set_option maxRecDepth 100000
set_option maxHeartbeats 8000000
namespace Mine
theorem resetHead02 {M : Model} {A : Around} {env : Env} {x : Str} {v : Value} {Q : Unit → Shared → Prop} {E : Value → Shared → Prop} {s : Shared} (h : wpAny M A (storeName env x v) Q E s) : wpAny M A (storeName env x v) Q E s := by
  w_top off
  k_with_none
  first
    | (walk1; fail)
    | exact h
abbrev prog : Program := PySem.Challenge.pw_bq5014_02

def runT (tb : String → Option Builtin) (p : Program) (w : World) (n₀ : Nat) (ann : Option Value) : Nat → SharedT → Thread → Option SharedT
  | 0, _, _ => none
  | n + 1, s, t => match through t with
    | true => some s
    | false => match stepOk n₀ ann t with
      | false => none
      | true => match stepT (denote tb) p w s t with
        | some (s', t') => runT tb p w n₀ ann n s' t'
        | none => none
theorem runT_of {tb : String → Option Builtin} {p : Program} {w : World} {n₀ : Nat} {ann : Option Value} : ∀ {n : Nat} {s s' : SharedT} {t : Thread}, runT tb p w n₀ ann n s t = some s' → topRun tb p w n₀ ann n s.abs t = some s'.abs
  | 0, _, _, _, h => by cases h
  | n + 1, s, s', t, h => by
    unfold runT at h
    unfold topRun
    cases he : through t with
    | true => rw [he] at h; cases h; rfl
    | false =>
      rw [he] at h
      cases hk : stepOk n₀ ann t with
      | false => rw [hk] at h; cases h
      | true =>
        rw [hk] at h
        cases hs : stepT (denote tb) p w s t with
        | none => rw [hs] at h; cases h
        | some r => obtain ⟨s₂, t₂⟩ := r; rw [hs] at h; rw [stepT_spec hs]; exact runT_of h

def toT? : List Obj → BT → Nat → Option BT
  | [], t, _ => some t
  | o :: r, t, n => match ((t.ins n o).get n).isSome with
    | true => toT? r (t.ins n o) (n + 1)
    | false => none
theorem toT_of (life : Life) : ∀ {l : List Obj} {t t' : BT} {n : Nat}, toT? l t n = some t' → absHeap t' (n + l.length) life = ⟨(absHeap t n life).objs ++ l.toArray, life⟩
  | [], t, t', n, h => by cases h; simp [absHeap]
  | o :: r, t, t', n, h => by
    unfold toT? at h
    cases e : ((t.ins n o).get n).isSome with
    | false => rw [e] at h; cases h
    | true =>
      rw [e] at h
      have := toT_of life h
      rw [show n + (o :: r).length = n + 1 + r.length by simp; omega, this, absHeap_ins e]
      simp [Heap.push]
def sT (s : Shared) (t : BT) : SharedT := ⟨t, s.heap.objs.size, s.heap.life, s.gens, s.drawn, s.toks, s.os⟩
theorem sT_abs {s : Shared} {t : BT} (h : toT? s.heap.objs.toList .nil 0 = some t) : (sT s t).abs = s := by
  have := toT_of s.heap.life h
  obtain ⟨⟨objs, life⟩, gens, drawn, toks, os⟩ := s
  simp only [Nat.zero_add] at this
  show Shared.mk (absHeap t objs.size life) gens drawn toks os = _
  have e : objs.size = objs.toList.length := by simp
  rw [e]
  rw [show absHeap t objs.toList.length life = _ from this]
  simp [absHeap, BT.list]

def q : Program := { prog with main := { prog.main with body := prog.main.body.drop 28 } }
def loose : List Str := ["unpack", "_wall", "SEEK_END", "PY2", "_whence", "_index", "UnsupportedOperation", "IOBase", "BufferedIOBase", "TextIOBase", "BytesIO", "StringIO", "KaitaiStruct", "KaitaiStream", "KaitaiStructError", "InvalidArgumentError", "EndOfStreamError", "_law_figures", "_law_shown", "_law_digits", "_law_worth", "_law_short", "_law_bits", "_law_ask", "_law_check"]
def sBody : Stmt → List Stmt
  | .FunctionDef _ _ b .. => b
  | .ClassDef _ _ _ b .. => b
  | _ => []
def sArgs : Stmt → Arguments
  | .FunctionDef _ a .. => a
  | _ => ⟨[], [], none, [], [], none, []⟩
def sScope : Stmt → Scope
  | .FunctionDef _ _ _ _ _ _ sc .. => sc
  | _ => ⟨.module, [], false, false, []⟩
def noStmt : Stmt := .Pass ⟨0, 0, 0, 0⟩
def nth : List Stmt → Nat → Stmt
  | [], _ => noStmt
  | s :: _, 0 => s
  | _ :: r, n + 1 => nth r n
def stm (i : Nat) : Stmt := nth prog.main.body i
def sub (i j : Nat) : Stmt := nth (sBody (stm i)) j
def K (P : Params) : Frag :=
  (nat_lit 2, ⟨.none, none, (.dict (⟨PyData.keyHash P (.ofString "\x69mport.loaded._struct"), (.str (.ofString "\x69mport.loaded._struct") 185), (.bool true)⟩ :: ⟨PyData.keyHash P (.ofString "class._frozen_importlib_external._LoaderBasics"), (.str (.ofString "class._frozen_importlib_external._LoaderBasics") 190), (.ref 16)⟩ :: ⟨PyData.keyHash P (.ofString "watched.\x69mport"), (.str (.ofString "watched.\x69mport") 206), (.ref 20)⟩ :: ⟨PyData.keyHash P (.ofString "class._frozen_importlib_external.FileLoader"), (.str (.ofString "class._frozen_importlib_external.FileLoader") 207), (.ref 22)⟩ :: ⟨PyData.keyHash P (.ofString "class._frozen_importlib_external.ExtensionFileLoader"), (.str (.ofString "class._frozen_importlib_external.ExtensionFileLoader") 228), (.ref 27)⟩ :: ⟨PyData.keyHash P (.ofString "class._frozen_importlib.ModuleSpec"), (.str (.ofString "class._frozen_importlib.ModuleSpec") 256), (.ref 33)⟩ :: ⟨PyData.keyHash P (.ofString "sys.modules.booked-epoch"), (.str (.ofString "sys.modules.booked-epoch") 285), (.int 3 0)⟩ :: ⟨PyData.keyHash P (.ofString "class.struct.error"), (.str (.ofString "class.struct.error") 302), (.type "struct.error")⟩ :: ⟨PyData.keyHash P (.ofString "\x69mport.later-laid._struct"), (.str (.ofString "\x69mport.later-laid._struct") 304), (.bool true)⟩ :: ⟨PyData.keyHash P (.ofString "watched.library"), (.str (.ofString "watched.library") 306), (.ref 38)⟩ :: ⟨PyData.keyHash P (.ofString "watched.library-objects"), (.str (.ofString "watched.library-objects") 0), (.str (.ofString "\r") 0)⟩ :: ⟨PyData.keyHash P (.ofString "type.__subclasses__.OSError.0"), (.str (.ofString "type.__subclasses__.OSError.0") 365), (.int 73 0)⟩ :: ⟨PyData.keyHash P (.ofString "type.__subclasses__.OSError.n"), (.str (.ofString "type.__subclasses__.OSError.n") 366), (.int 1 0)⟩ :: ⟨PyData.keyHash P (.ofString "type.__subclasses__.Exception.0"), (.str (.ofString "type.__subclasses__.Exception.0") 1732), (.int 1098 0)⟩ :: ⟨PyData.keyHash P (.ofString "type.__subclasses__.Exception.n"), (.str (.ofString "type.__subclasses__.Exception.n") 1733), (.int 1 0)⟩ :: ⟨PyData.keyHash P (.ofString "type.__subclasses__.EOFError.0"), (.str (.ofString "type.__subclasses__.EOFError.0") 1790), (.int 1141 0)⟩ :: ⟨PyData.keyHash P (.ofString "type.__subclasses__.EOFError.n"), (.str (.ofString "type.__subclasses__.EOFError.n") 1791), (.int 1 0)⟩ :: []).toArray 17), #[]⟩) ::
  (nat_lit 3, ⟨(.type "dict"), none, (.dict (⟨PyData.keyHash P (.ofString "__name__"), (.str (.ofString "__name__") 165), (.str (.ofString "law_bq5014_02") 1794)⟩ :: ⟨PyData.keyHash P (.ofString "__doc__"), (.str (.ofString "__doc__") 166), .none⟩ :: ⟨PyData.keyHash P (.ofString "__package__"), (.str (.ofString "__package__") 167), .none⟩ :: ⟨PyData.keyHash P (.ofString "__loader__"), (.str (.ofString "__loader__") 168), (.builtin "__main__.__loader__#opaque")⟩ :: ⟨PyData.keyHash P (.ofString "__spec__"), (.str (.ofString "__spec__") 169), .none⟩ :: ⟨PyData.keyHash P (.ofString "__annotations__"), (.str (.ofString "__annotations__") 170), (.ref 6)⟩ :: ⟨PyData.keyHash P (.ofString "__builtins__"), (.str (.ofString "__builtins__") 171), (.ref 4)⟩ :: ⟨PyData.keyHash P (.ofString "__file__"), (.str (.ofString "__file__") 173), (.str (.ofString "/claim/cut.py") 172)⟩ :: ⟨PyData.keyHash P (.ofString "__cached__"), (.str (.ofString "__cached__") 174), .none⟩ :: ⟨PyData.keyHash P (.ofString "unpack"), (.str (.ofString "unpack") 312), (.builtin "_struct.unpack")⟩ :: ⟨PyData.keyHash P (.ofString "_wall"), (.str (.ofString "_wall") 325), (.ref 49)⟩ :: ⟨PyData.keyHash P (.ofString "SEEK_END"), (.str (.ofString "SEEK_END") 327), (.int 2 326)⟩ :: ⟨PyData.keyHash P (.ofString "PY2"), (.str (.ofString "PY2") 328), (.bool false)⟩ :: ⟨PyData.keyHash P (.ofString "_whence"), (.str (.ofString "_whence") 338), (.ref 56)⟩ :: ⟨PyData.keyHash P (.ofString "_index"), (.str (.ofString "_index") 346), (.ref 63)⟩ :: ⟨PyData.keyHash P (.ofString "UnsupportedOperation"), (.str (.ofString "UnsupportedOperation") 368), (.ref 73)⟩ :: ⟨PyData.keyHash P (.ofString "IOBase"), (.str (.ofString "IOBase") 400), (.ref 93)⟩ :: ⟨PyData.keyHash P (.ofString "BufferedIOBase"), (.str (.ofString "BufferedIOBase") 418), (.ref 108)⟩ :: ⟨PyData.keyHash P (.ofString "TextIOBase"), (.str (.ofString "TextIOBase") 436), (.ref 120)⟩ :: ⟨PyData.keyHash P (.ofString "BytesIO"), (.str (.ofString "BytesIO") 698), (.ref 350)⟩ :: ⟨PyData.keyHash P (.ofString "StringIO"), (.str (.ofString "StringIO") 985), (.ref 597)⟩ :: ⟨PyData.keyHash P (.ofString "KaitaiStruct"), (.str (.ofString "KaitaiStruct") 1063), (.ref 643)⟩ :: ⟨PyData.keyHash P (.ofString "KaitaiStream"), (.str (.ofString "KaitaiStream") 1703), (.ref 1075)⟩ :: ⟨PyData.keyHash P (.ofString "KaitaiStructError"), (.str (.ofString "KaitaiStructError") 1735), (.ref 1098)⟩ :: ⟨PyData.keyHash P (.ofString "InvalidArgumentError"), (.str (.ofString "InvalidArgumentError") 1761), (.ref 1120)⟩ :: ⟨PyData.keyHash P (.ofString "EndOfStreamError"), (.str (.ofString "EndOfStreamError") 1793), (.ref 1141)⟩ :: ⟨PyData.keyHash P (.ofString "_law_figures"), (.str (.ofString "_law_figures") 1797), (.str (.ofString "0123456789abcdef") 1796)⟩ :: ⟨PyData.keyHash P (.ofString "_law_shown"), (.str (.ofString "_law_shown") 1807), (.ref 1150)⟩ :: ⟨PyData.keyHash P (.ofString "_law_digits"), (.str (.ofString "_law_digits") 1813), (.ref 1155)⟩ :: ⟨PyData.keyHash P (.ofString "_law_worth"), (.str (.ofString "_law_worth") 1822), (.ref 1162)⟩ :: ⟨PyData.keyHash P (.ofString "_law_short"), (.str (.ofString "_law_short") 1830), (.ref 1169)⟩ :: ⟨PyData.keyHash P (.ofString "_law_bits"), (.str (.ofString "_law_bits") 1846), (.ref 1176)⟩ :: ⟨PyData.keyHash P (.ofString "_law_ask"), (.str (.ofString "_law_ask") 1856), (.ref 1183)⟩ :: ⟨PyData.keyHash P (.ofString "_law_check"), (.str (.ofString "_law_check") 1865), (.ref 1190)⟩ :: ⟨PyData.keyHash P (.ofString "law"), (.str (.ofString "law") 1871), (.ref 1195)⟩ :: []).toArray 35), #[]⟩) ::
  (nat_lit 55, ⟨(.type "code"), none, (.fields ((.str (.ofString "_whence") 331) :: (.str (.ofString "_whence") 332) :: (.str (.ofString "/claim/cut.py") 333) :: (.int 8 0) :: (.int 2 0) :: (.int 0 0) :: (.int 0 0) :: (.int 3 0) :: (.ref 50) :: (.bool true) :: (.int 313 0) :: (.ref 51) :: .none :: (.ref 52) :: (.ref 53) :: (.ref 54) :: (.int 336 0) :: (.int 8 0) :: (.str (.ofString "/claim/cut.py") 337) :: []).toArray), #[]⟩) ::
  (nat_lit 56, ⟨(.type "function"), none, (.func ⟨(.ofString "_whence"), (.ofString "_whence"), sArgs (stm 5), .stmts (sBody (stm 5)), sScope (stm 5), 3, [], .none, .none, .none, (.str (.ofString "io") 329), none, (.ref 55), .none, 0⟩), #[]⟩) ::
  (nat_lit 62, ⟨(.type "code"), none, (.fields ((.str (.ofString "_index") 339) :: (.str (.ofString "_index") 340) :: (.str (.ofString "/claim/cut.py") 341) :: (.int 13 0) :: (.int 2 0) :: (.int 0 0) :: (.int 0 0) :: (.int 3 0) :: (.ref 57) :: (.bool true) :: (.int 313 0) :: (.ref 58) :: .none :: (.ref 59) :: (.ref 60) :: (.ref 61) :: (.int 344 0) :: (.int 13 0) :: (.str (.ofString "/claim/cut.py") 345) :: []).toArray), #[]⟩) ::
  (nat_lit 63, ⟨(.type "function"), none, (.func ⟨(.ofString "_index"), (.ofString "_index"), sArgs (stm 6), .stmts (sBody (stm 6)), sScope (stm 6), 3, [], .none, .none, .none, (.str (.ofString "io") 329), none, (.ref 62), .none, 0⟩), #[]⟩) ::
  (nat_lit 72, ⟨(.type "dict"), none, (.dict [⟨PyData.keyHash P (.ofString "__module__"), (.str (.ofString "__module__") 354), (.str (.ofString "io") 359)⟩, ⟨PyData.keyHash P (.ofString "__firstlineno__"), (.str (.ofString "__firstlineno__") 358), (.int 20 357)⟩, ⟨PyData.keyHash P (.ofString "__static_attributes__"), (.str (.ofString "__static_attributes__") 361), (.ref 71)⟩, ⟨PyData.keyHash P (.ofString "__weakref__"), (.str (.ofString "__weakref__") 363), (.ref 74)⟩, ⟨PyData.keyHash P (.ofString "__doc__"), (.str (.ofString "__doc__") 364), .none⟩].toArray 3), #[]⟩) ::
  (nat_lit 73, ⟨(.type "type"), none, (.cls ⟨(.ofString "UnsupportedOperation"), [(.type "OSError"), (.type "ValueError")], [(.ref 73), (.type "OSError"), (.type "ValueError"), (.type "Exception"), (.type "BaseException"), (.type "object")], 72, (.ofString "UnsupportedOperation"), true, [], [], false, none, false⟩), [(some (.ref 64)), none, (some (.str (.ofString "UnsupportedOperation") 347)), (some (.str (.ofString "UnsupportedOperation") 355)), (some (.builtin "OSError.__new__")), (some (.bool true))].toArray⟩) ::
  (nat_lit 89, ⟨(.type "code"), none, (.fields ((.str (.ofString "__new__") 383) :: (.str (.ofString "IOBase.__new__") 384) :: (.str (.ofString "/claim/cut.py") 385) :: (.int 25 0) :: (.int 1 0) :: (.int 1 0) :: (.int 0 0) :: (.int 15 0) :: (.ref 84) :: (.bool true) :: (.int 313 0) :: (.ref 85) :: .none :: (.ref 86) :: (.ref 87) :: (.ref 88) :: (.int 389 0) :: (.int 25 0) :: (.str (.ofString "/claim/cut.py") 390) :: []).toArray), #[]⟩) ::
  (nat_lit 90, ⟨(.type "function"), none, (.func ⟨(.ofString "__new__"), (.ofString "IOBase.__new__"), sArgs (sub 8 1), .stmts (sBody (sub 8 1)), sScope (sub 8 1), 3, [], .none, .none, .none, (.str (.ofString "io") 329), none, (.ref 89), .none, 0⟩), #[]⟩) ::
  (nat_lit 92, ⟨(.type "dict"), none, (.dict [⟨PyData.keyHash P (.ofString "__module__"), (.str (.ofString "__module__") 376), (.str (.ofString "io") 381)⟩, ⟨PyData.keyHash P (.ofString "__firstlineno__"), (.str (.ofString "__firstlineno__") 380), (.int 22 379)⟩, ⟨PyData.keyHash P (.ofString "__new__"), (.str (.ofString "__new__") 391), (.ref 94)⟩, ⟨PyData.keyHash P (.ofString "__static_attributes__"), (.str (.ofString "__static_attributes__") 392), (.ref 91)⟩, ⟨PyData.keyHash P (.ofString "__dict__"), (.str (.ofString "__dict__") 395), (.ref 95)⟩, ⟨PyData.keyHash P (.ofString "__weakref__"), (.str (.ofString "__weakref__") 397), (.ref 96)⟩, ⟨PyData.keyHash P (.ofString "__doc__"), (.str (.ofString "__doc__") 398), .none⟩].toArray 4), #[]⟩) ::
  (nat_lit 93, ⟨(.type "type"), none, (.cls ⟨(.ofString "IOBase"), [(.type "object")], [(.ref 93), (.type "object")], 92, (.ofString "IOBase"), true, [], [(.ref 108), (.ref 120)], false, none, false⟩), [none, none, (some (.str (.ofString "IOBase") 369)), (some (.str (.ofString "IOBase") 377)), (some .none), (some (.bool true))].toArray⟩) ::
  (nat_lit 94, ⟨(.type "staticmethod"), none, (.fields [(.ref 90)].toArray), #[]⟩) ::
  (nat_lit 107, ⟨(.type "dict"), none, (.dict [⟨PyData.keyHash P (.ofString "__module__"), (.str (.ofString "__module__") 408), (.str (.ofString "io") 413)⟩, ⟨PyData.keyHash P (.ofString "__firstlineno__"), (.str (.ofString "__firstlineno__") 412), (.int 29 411)⟩, ⟨PyData.keyHash P (.ofString "__static_attributes__"), (.str (.ofString "__static_attributes__") 415), (.ref 106)⟩, ⟨PyData.keyHash P (.ofString "__doc__"), (.str (.ofString "__doc__") 416), .none⟩].toArray 2), #[]⟩) ::
  (nat_lit 108, ⟨(.type "type"), none, (.cls ⟨(.ofString "BufferedIOBase"), [(.ref 93)], [(.ref 108), (.ref 93), (.type "object")], 107, (.ofString "BufferedIOBase"), true, [], [(.ref 350)], false, none, false⟩), [(some (.ref 99)), none, (some (.str (.ofString "BufferedIOBase") 401)), (some (.str (.ofString "BufferedIOBase") 409)), (some .none), (some (.bool true))].toArray⟩) ::
  (nat_lit 119, ⟨(.type "dict"), none, (.dict [⟨PyData.keyHash P (.ofString "__module__"), (.str (.ofString "__module__") 426), (.str (.ofString "io") 431)⟩, ⟨PyData.keyHash P (.ofString "__firstlineno__"), (.str (.ofString "__firstlineno__") 430), (.int 31 429)⟩, ⟨PyData.keyHash P (.ofString "__static_attributes__"), (.str (.ofString "__static_attributes__") 433), (.ref 118)⟩, ⟨PyData.keyHash P (.ofString "__doc__"), (.str (.ofString "__doc__") 434), .none⟩].toArray 2), #[]⟩) ::
  (nat_lit 120, ⟨(.type "type"), none, (.cls ⟨(.ofString "TextIOBase"), [(.ref 93)], [(.ref 120), (.ref 93), (.type "object")], 119, (.ofString "TextIOBase"), true, [], [(.ref 597)], false, none, false⟩), [(some (.ref 111)), none, (some (.str (.ofString "TextIOBase") 419)), (some (.str (.ofString "TextIOBase") 427)), (some .none), (some (.bool true))].toArray⟩) ::
  (nat_lit 130, ⟨(.type "tuple"), none, (.seq [.none].toArray 0), #[]⟩) ::
  (nat_lit 136, ⟨(.type "code"), none, (.fields ((.str (.ofString "__init__") 451) :: (.str (.ofString "BytesIO.__init__") 452) :: (.str (.ofString "/claim/cut.py") 453) :: (.int 36 0) :: (.int 2 0) :: (.int 0 0) :: (.int 0 0) :: (.int 3 0) :: (.ref 131) :: (.bool true) :: (.int 313 0) :: (.ref 132) :: .none :: (.ref 133) :: (.ref 134) :: (.ref 135) :: (.int 456 0) :: (.int 36 0) :: (.str (.ofString "/claim/cut.py") 457) :: []).toArray), #[]⟩) ::
  (nat_lit 137, ⟨(.type "function"), none, (.func ⟨(.ofString "__init__"), (.ofString "BytesIO.__init__"), sArgs (sub 11 1), .stmts (sBody (sub 11 1)), sScope (sub 11 1), 3, [], (.ref 130), .none, .none, (.str (.ofString "io") 329), none, (.ref 136), .none, 0⟩), #[]⟩) ::
  (nat_lit 143, ⟨(.type "code"), none, (.fields ((.str (.ofString "__check") 459) :: (.str (.ofString "BytesIO.__check") 460) :: (.str (.ofString "/claim/cut.py") 461) :: (.int 42 0) :: (.int 1 0) :: (.int 0 0) :: (.int 0 0) :: (.int 3 0) :: (.ref 138) :: (.bool true) :: (.int 313 0) :: (.ref 139) :: .none :: (.ref 140) :: (.ref 141) :: (.ref 142) :: (.int 463 0) :: (.int 42 0) :: (.str (.ofString "/claim/cut.py") 464) :: []).toArray), #[]⟩) ::
  (nat_lit 144, ⟨(.type "function"), none, (.func ⟨(.ofString "__check"), (.ofString "BytesIO.__check"), sArgs (sub 11 2), .stmts (sBody (sub 11 2)), sScope (sub 11 2), 3, [], .none, .none, .none, (.str (.ofString "io") 329), none, (.ref 143), .none, 0⟩), #[]⟩) ::
  (nat_lit 249, ⟨(.type "code"), none, (.fields ((.str (.ofString "tell") 570) :: (.str (.ofString "BytesIO.tell") 571) :: (.str (.ofString "/claim/cut.py") 572) :: (.int 104 0) :: (.int 1 0) :: (.int 0 0) :: (.int 0 0) :: (.int 3 0) :: (.ref 244) :: (.bool true) :: (.int 313 0) :: (.ref 245) :: .none :: (.ref 246) :: (.ref 247) :: (.ref 248) :: (.int 574 0) :: (.int 104 0) :: (.str (.ofString "/claim/cut.py") 575) :: []).toArray), #[]⟩) ::
  (nat_lit 250, ⟨(.type "function"), none, (.func ⟨(.ofString "tell"), (.ofString "BytesIO.tell"), sArgs (sub 11 17), .stmts (sBody (sub 11 17)), sScope (sub 11 17), 3, [], .none, .none, .none, (.str (.ofString "io") 329), none, (.ref 249), .none, 0⟩), #[]⟩) ::
  (nat_lit 251, ⟨(.type "tuple"), none, (.seq [(.int 0 577)].toArray 0), #[]⟩) ::
  (nat_lit 257, ⟨(.type "code"), none, (.fields ((.str (.ofString "seek") 578) :: (.str (.ofString "BytesIO.seek") 579) :: (.str (.ofString "/claim/cut.py") 580) :: (.int 108 0) :: (.int 3 0) :: (.int 3 0) :: (.int 0 0) :: (.int 3 0) :: (.ref 252) :: (.bool true) :: (.int 313 0) :: (.ref 253) :: .none :: (.ref 254) :: (.ref 255) :: (.ref 256) :: (.int 584 0) :: (.int 108 0) :: (.str (.ofString "/claim/cut.py") 585) :: []).toArray), #[]⟩) ::
  (nat_lit 258, ⟨(.type "function"), none, (.func ⟨(.ofString "seek"), (.ofString "BytesIO.seek"), sArgs (sub 11 18), .stmts (sBody (sub 11 18)), sScope (sub 11 18), 3, [], (.ref 251), .none, .none, (.str (.ofString "io") 329), none, (.ref 257), .none, 0⟩), #[]⟩) ::
  (nat_lit 267, ⟨(.type "tuple"), none, (.seq [(.int (-1) 596)].toArray 0), #[]⟩) ::
  (nat_lit 273, ⟨(.type "code"), none, (.fields ((.str (.ofString "read") 597) :: (.str (.ofString "BytesIO.read") 598) :: (.str (.ofString "/claim/cut.py") 599) :: (.int 128 0) :: (.int 2 0) :: (.int 2 0) :: (.int 0 0) :: (.int 3 0) :: (.ref 268) :: (.bool true) :: (.int 313 0) :: (.ref 269) :: .none :: (.ref 270) :: (.ref 271) :: (.ref 272) :: (.int 604 0) :: (.int 128 0) :: (.str (.ofString "/claim/cut.py") 605) :: []).toArray), #[]⟩) ::
  (nat_lit 274, ⟨(.type "function"), none, (.func ⟨(.ofString "read"), (.ofString "BytesIO.read"), sArgs (sub 11 20), .stmts (sBody (sub 11 20)), sScope (sub 11 20), 3, [], (.ref 267), .none, .none, (.str (.ofString "io") 329), none, (.ref 273), .none, 0⟩), #[]⟩) ::
  (nat_lit 349, ⟨(.type "dict"), none, (.dict (⟨PyData.keyHash P (.ofString "__module__"), (.str (.ofString "__module__") 444), (.str (.ofString "_io") 449)⟩ :: ⟨PyData.keyHash P (.ofString "__firstlineno__"), (.str (.ofString "__firstlineno__") 448), (.int 33 447)⟩ :: ⟨PyData.keyHash P (.ofString "__init__"), (.str (.ofString "__init__") 458), (.ref 137)⟩ :: ⟨PyData.keyHash P (.ofString "_BytesIO__check"), (.str (.ofString "_BytesIO__check") 465), (.ref 144)⟩ :: ⟨PyData.keyHash P (.ofString "_BytesIO__line"), (.str (.ofString "_BytesIO__line") 476), (.ref 151)⟩ :: ⟨PyData.keyHash P (.ofString "closed"), (.str (.ofString "closed") 484), (.ref 159)⟩ :: ⟨PyData.keyHash P (.ofString "close"), (.str (.ofString "close") 491), (.ref 166)⟩ :: ⟨PyData.keyHash P (.ofString "__enter__"), (.str (.ofString "__enter__") 498), (.ref 173)⟩ :: ⟨PyData.keyHash P (.ofString "__exit__"), (.str (.ofString "__exit__") 506), (.ref 180)⟩ :: ⟨PyData.keyHash P (.ofString "readable"), (.str (.ofString "readable") 513), (.ref 187)⟩ :: ⟨PyData.keyHash P (.ofString "writable"), (.str (.ofString "writable") 520), (.ref 194)⟩ :: ⟨PyData.keyHash P (.ofString "seekable"), (.str (.ofString "seekable") 527), (.ref 201)⟩ :: ⟨PyData.keyHash P (.ofString "isatty"), (.str (.ofString "isatty") 534), (.ref 208)⟩ :: ⟨PyData.keyHash P (.ofString "flush"), (.str (.ofString "flush") 541), (.ref 215)⟩ :: ⟨PyData.keyHash P (.ofString "fileno"), (.str (.ofString "fileno") 548), (.ref 222)⟩ :: ⟨PyData.keyHash P (.ofString "detach"), (.str (.ofString "detach") 555), (.ref 229)⟩ :: ⟨PyData.keyHash P (.ofString "getvalue"), (.str (.ofString "getvalue") 562), (.ref 236)⟩ :: ⟨PyData.keyHash P (.ofString "getbuffer"), (.str (.ofString "getbuffer") 569), (.ref 243)⟩ :: ⟨PyData.keyHash P (.ofString "tell"), (.str (.ofString "tell") 576), (.ref 250)⟩ :: ⟨PyData.keyHash P (.ofString "seek"), (.str (.ofString "seek") 586), (.ref 258)⟩ :: ⟨PyData.keyHash P (.ofString "truncate"), (.str (.ofString "truncate") 594), (.ref 266)⟩ :: ⟨PyData.keyHash P (.ofString "read"), (.str (.ofString "read") 606), (.ref 274)⟩ :: ⟨PyData.keyHash P (.ofString "read1"), (.str (.ofString "read1") 616), (.ref 282)⟩ :: ⟨PyData.keyHash P (.ofString "readinto"), (.str (.ofString "readinto") 626), (.ref 289)⟩ :: ⟨PyData.keyHash P (.ofString "readinto1"), (.str (.ofString "readinto1") 634), (.ref 296)⟩ :: ⟨PyData.keyHash P (.ofString "readline"), (.str (.ofString "readline") 644), (.ref 304)⟩ :: ⟨PyData.keyHash P (.ofString "readlines"), (.str (.ofString "readlines") 652), (.ref 312)⟩ :: ⟨PyData.keyHash P (.ofString "__iter__"), (.str (.ofString "__iter__") 659), (.ref 319)⟩ :: ⟨PyData.keyHash P (.ofString "__next__"), (.str (.ofString "__next__") 667), (.ref 326)⟩ :: ⟨PyData.keyHash P (.ofString "write"), (.str (.ofString "write") 677), (.ref 333)⟩ :: ⟨PyData.keyHash P (.ofString "writelines"), (.str (.ofString "writelines") 685), (.ref 340)⟩ :: ⟨PyData.keyHash P (.ofString "__repr__"), (.str (.ofString "__repr__") 692), (.ref 347)⟩ :: ⟨PyData.keyHash P (.ofString "__static_attributes__"), (.str (.ofString "__static_attributes__") 695), (.ref 348)⟩ :: ⟨PyData.keyHash P (.ofString "__doc__"), (.str (.ofString "__doc__") 696), .none⟩ :: []).toArray 2), #[]⟩) ::
  (nat_lit 350, ⟨(.type "type"), none, (.cls ⟨(.ofString "BytesIO"), [(.ref 108)], [(.ref 350), (.ref 108), (.ref 93), (.type "object")], 349, (.ofString "BytesIO"), true, [], [], false, none, false⟩), [(some (.ref 123)), none, (some (.str (.ofString "BytesIO") 437)), (some (.str (.ofString "BytesIO") 445)), (some .none), (some (.bool true))].toArray⟩) ::
  (nat_lit 596, ⟨(.type "dict"), none, (.dict (⟨PyData.keyHash P (.ofString "__module__"), (.str (.ofString "__module__") 706), (.str (.ofString "_io") 711)⟩ :: ⟨PyData.keyHash P (.ofString "__firstlineno__"), (.str (.ofString "__firstlineno__") 710), (.int 203 709)⟩ :: ⟨PyData.keyHash P (.ofString "__init__"), (.str (.ofString "__init__") 723), (.ref 367)⟩ :: ⟨PyData.keyHash P (.ofString "_StringIO__translated"), (.str (.ofString "_StringIO__translated") 732), (.ref 374)⟩ :: ⟨PyData.keyHash P (.ofString "_StringIO__check"), (.str (.ofString "_StringIO__check") 739), (.ref 381)⟩ :: ⟨PyData.keyHash P (.ofString "_StringIO__check_dot"), (.str (.ofString "_StringIO__check_dot") 746), (.ref 388)⟩ :: ⟨PyData.keyHash P (.ofString "_StringIO__line"), (.str (.ofString "_StringIO__line") 761), (.ref 395)⟩ :: ⟨PyData.keyHash P (.ofString "closed"), (.str (.ofString "closed") 769), (.ref 403)⟩ :: ⟨PyData.keyHash P (.ofString "line_buffering"), (.str (.ofString "line_buffering") 777), (.ref 411)⟩ :: ⟨PyData.keyHash P (.ofString "newlines"), (.str (.ofString "newlines") 785), (.ref 419)⟩ :: ⟨PyData.keyHash P (.ofString "encoding"), (.str (.ofString "encoding") 793), (.ref 427)⟩ :: ⟨PyData.keyHash P (.ofString "errors"), (.str (.ofString "errors") 801), (.ref 435)⟩ :: ⟨PyData.keyHash P (.ofString "close"), (.str (.ofString "close") 808), (.ref 442)⟩ :: ⟨PyData.keyHash P (.ofString "__enter__"), (.str (.ofString "__enter__") 815), (.ref 449)⟩ :: ⟨PyData.keyHash P (.ofString "__exit__"), (.str (.ofString "__exit__") 823), (.ref 456)⟩ :: ⟨PyData.keyHash P (.ofString "readable"), (.str (.ofString "readable") 830), (.ref 463)⟩ :: ⟨PyData.keyHash P (.ofString "writable"), (.str (.ofString "writable") 837), (.ref 470)⟩ :: ⟨PyData.keyHash P (.ofString "seekable"), (.str (.ofString "seekable") 844), (.ref 477)⟩ :: ⟨PyData.keyHash P (.ofString "isatty"), (.str (.ofString "isatty") 851), (.ref 484)⟩ :: ⟨PyData.keyHash P (.ofString "flush"), (.str (.ofString "flush") 858), (.ref 491)⟩ :: ⟨PyData.keyHash P (.ofString "fileno"), (.str (.ofString "fileno") 865), (.ref 498)⟩ :: ⟨PyData.keyHash P (.ofString "detach"), (.str (.ofString "detach") 872), (.ref 505)⟩ :: ⟨PyData.keyHash P (.ofString "getvalue"), (.str (.ofString "getvalue") 879), (.ref 512)⟩ :: ⟨PyData.keyHash P (.ofString "tell"), (.str (.ofString "tell") 886), (.ref 519)⟩ :: ⟨PyData.keyHash P (.ofString "seek"), (.str (.ofString "seek") 896), (.ref 527)⟩ :: ⟨PyData.keyHash P (.ofString "truncate"), (.str (.ofString "truncate") 904), (.ref 535)⟩ :: ⟨PyData.keyHash P (.ofString "read"), (.str (.ofString "read") 916), (.ref 543)⟩ :: ⟨PyData.keyHash P (.ofString "readline"), (.str (.ofString "readline") 926), (.ref 551)⟩ :: ⟨PyData.keyHash P (.ofString "readlines"), (.str (.ofString "readlines") 936), (.ref 559)⟩ :: ⟨PyData.keyHash P (.ofString "__iter__"), (.str (.ofString "__iter__") 943), (.ref 566)⟩ :: ⟨PyData.keyHash P (.ofString "__next__"), (.str (.ofString "__next__") 951), (.ref 573)⟩ :: ⟨PyData.keyHash P (.ofString "write"), (.str (.ofString "write") 963), (.ref 580)⟩ :: ⟨PyData.keyHash P (.ofString "writelines"), (.str (.ofString "writelines") 971), (.ref 587)⟩ :: ⟨PyData.keyHash P (.ofString "__repr__"), (.str (.ofString "__repr__") 978), (.ref 594)⟩ :: ⟨PyData.keyHash P (.ofString "__static_attributes__"), (.str (.ofString "__static_attributes__") 982), (.ref 595)⟩ :: ⟨PyData.keyHash P (.ofString "__doc__"), (.str (.ofString "__doc__") 983), .none⟩ :: []).toArray 2), #[]⟩) ::
  (nat_lit 597, ⟨(.type "type"), none, (.cls ⟨(.ofString "StringIO"), [(.ref 120)], [(.ref 597), (.ref 120), (.ref 93), (.type "object")], 596, (.ofString "StringIO"), true, [], [], false, none, false⟩), [(some (.ref 353)), none, (some (.str (.ofString "StringIO") 699)), (some (.str (.ofString "StringIO") 707)), (some .none), (some (.bool true))].toArray⟩) ::
  (nat_lit 612, ⟨(.type "code"), none, (.fields ((.str (.ofString "__init__") 1000) :: (.str (.ofString "KaitaiStruct.__init__") 1001) :: (.str (.ofString "/claim/cut.py") 1002) :: (.int 411 0) :: (.int 2 0) :: (.int 0 0) :: (.int 0 0) :: (.int 3 0) :: (.ref 607) :: (.bool true) :: (.int 313 0) :: (.ref 608) :: .none :: (.ref 609) :: (.ref 610) :: (.ref 611) :: (.int 1005 0) :: (.int 411 0) :: (.str (.ofString "/claim/cut.py") 1006) :: []).toArray), #[]⟩) ::
  (nat_lit 613, ⟨(.type "function"), none, (.func ⟨(.ofString "__init__"), (.ofString "KaitaiStruct.__init__"), sArgs (sub 14 0), .stmts (sBody (sub 14 0)), sScope (sub 14 0), 3, [], .none, .none, .none, (.str (.ofString "kaitaistruct") 986), none, (.ref 612), .none, 0⟩), #[]⟩) ::
  (nat_lit 626, ⟨(.type "code"), none, (.fields ((.str (.ofString "from_bytes") 1015) :: (.str (.ofString "KaitaiStruct.from_bytes") 1016) :: (.str (.ofString "/claim/cut.py") 1017) :: (.int 417 0) :: (.int 2 0) :: (.int 0 0) :: (.int 0 0) :: (.int 3 0) :: (.ref 621) :: (.bool true) :: (.int 313 0) :: (.ref 622) :: .none :: (.ref 623) :: (.ref 624) :: (.ref 625) :: (.int 1020 0) :: (.int 417 0) :: (.str (.ofString "/claim/cut.py") 1021) :: []).toArray), #[]⟩) ::
  (nat_lit 627, ⟨(.type "function"), none, (.func ⟨(.ofString "from_bytes"), (.ofString "KaitaiStruct.from_bytes"), sArgs (sub 14 2), .stmts (sBody (sub 14 2)), sScope (sub 14 2), 3, [], .none, .none, .none, (.str (.ofString "kaitaistruct") 986), (some 630), (.ref 626), .none, 0⟩), #[]⟩) ::
  (nat_lit 629, ⟨(.type "classmethod"), (some 628), (.fields [(.ref 627), (.bool false)].toArray), #[]⟩) ::
  (nat_lit 642, ⟨(.type "dict"), none, (.dict (⟨PyData.keyHash P (.ofString "__module__"), (.str (.ofString "__module__") 995), (.str (.ofString "kaitaistruct") 986)⟩ :: ⟨PyData.keyHash P (.ofString "__firstlineno__"), (.str (.ofString "__firstlineno__") 999), (.int 409 998)⟩ :: ⟨PyData.keyHash P (.ofString "__init__"), (.str (.ofString "__init__") 1007), (.ref 613)⟩ :: ⟨PyData.keyHash P (.ofString "close"), (.str (.ofString "close") 1014), (.ref 620)⟩ :: ⟨PyData.keyHash P (.ofString "from_bytes"), (.str (.ofString "from_bytes") 1034), (.ref 629)⟩ :: ⟨PyData.keyHash P (.ofString "from_io"), (.str (.ofString "from_io") 1054), (.ref 639)⟩ :: ⟨PyData.keyHash P (.ofString "__static_attributes__"), (.str (.ofString "__static_attributes__") 1056), (.ref 641)⟩ :: ⟨PyData.keyHash P (.ofString "__dict__"), (.str (.ofString "__dict__") 1058), (.ref 644)⟩ :: ⟨PyData.keyHash P (.ofString "__weakref__"), (.str (.ofString "__weakref__") 1060), (.ref 645)⟩ :: ⟨PyData.keyHash P (.ofString "__doc__"), (.str (.ofString "__doc__") 1061), .none⟩ :: []).toArray 4), #[]⟩) ::
  (nat_lit 643, ⟨(.type "type"), none, (.cls ⟨(.ofString "KaitaiStruct"), [(.type "object")], [(.ref 643), (.type "object")], 642, (.ofString "KaitaiStruct"), true, [], [], false, none, false⟩), [(some (.ref 600)), none, (some (.str (.ofString "KaitaiStruct") 988)), (some (.str (.ofString "KaitaiStruct") 996)), (some (.builtin "object.__new__")), (some (.bool true))].toArray⟩) ::
  (nat_lit 660, ⟨(.type "code"), none, (.fields ((.str (.ofString "__init__") 1076) :: (.str (.ofString "KaitaiStream.__init__") 1077) :: (.str (.ofString "/claim/cut.py") 1078) :: (.int 426 0) :: (.int 2 0) :: (.int 0 0) :: (.int 0 0) :: (.int 3 0) :: (.ref 655) :: (.bool true) :: (.int 313 0) :: (.ref 656) :: .none :: (.ref 657) :: (.ref 658) :: (.ref 659) :: (.int 1081 0) :: (.int 426 0) :: (.str (.ofString "/claim/cut.py") 1082) :: []).toArray), #[]⟩) ::
  (nat_lit 661, ⟨(.type "function"), none, (.func ⟨(.ofString "__init__"), (.ofString "KaitaiStream.__init__"), sArgs (sub 15 0), .stmts (sBody (sub 15 0)), sScope (sub 15 0), 3, [], .none, .none, .none, (.str (.ofString "kaitaistruct") 986), none, (.ref 660), .none, 0⟩), #[]⟩) ::
  (nat_lit 674, ⟨(.type "code"), none, (.fields ((.str (.ofString "is_eof") 1091) :: (.str (.ofString "KaitaiStream.is_eof") 1092) :: (.str (.ofString "/claim/cut.py") 1093) :: (.int 447 0) :: (.int 1 0) :: (.int 0 0) :: (.int 0 0) :: (.int 3 0) :: (.ref 669) :: (.bool true) :: (.int 313 0) :: (.ref 670) :: .none :: (.ref 671) :: (.ref 672) :: (.ref 673) :: (.int 1095 0) :: (.int 447 0) :: (.str (.ofString "/claim/cut.py") 1096) :: []).toArray), #[]⟩) ::
  (nat_lit 675, ⟨(.type "function"), none, (.func ⟨(.ofString "is_eof"), (.ofString "KaitaiStream.is_eof"), sArgs (sub 15 2), .stmts (sBody (sub 15 2)), sScope (sub 15 2), 3, [], .none, .none, .none, (.str (.ofString "kaitaistruct") 986), none, (.ref 674), .none, 0⟩), #[]⟩) ::
  (nat_lit 681, ⟨(.type "code"), none, (.fields ((.str (.ofString "seek") 1098) :: (.str (.ofString "KaitaiStream.seek") 1099) :: (.str (.ofString "/claim/cut.py") 1100) :: (.int 452 0) :: (.int 2 0) :: (.int 0 0) :: (.int 0 0) :: (.int 3 0) :: (.ref 676) :: (.bool true) :: (.int 313 0) :: (.ref 677) :: .none :: (.ref 678) :: (.ref 679) :: (.ref 680) :: (.int 1103 0) :: (.int 452 0) :: (.str (.ofString "/claim/cut.py") 1104) :: []).toArray), #[]⟩) ::
  (nat_lit 682, ⟨(.type "function"), none, (.func ⟨(.ofString "seek"), (.ofString "KaitaiStream.seek"), sArgs (sub 15 3), .stmts (sBody (sub 15 3)), sScope (sub 15 3), 3, [], .none, .none, .none, (.str (.ofString "kaitaistruct") 986), none, (.ref 681), .none, 0⟩), #[]⟩) ::
  (nat_lit 688, ⟨(.type "code"), none, (.fields ((.str (.ofString "pos") 1106) :: (.str (.ofString "KaitaiStream.pos") 1107) :: (.str (.ofString "/claim/cut.py") 1108) :: (.int 461 0) :: (.int 1 0) :: (.int 0 0) :: (.int 0 0) :: (.int 3 0) :: (.ref 683) :: (.bool true) :: (.int 313 0) :: (.ref 684) :: .none :: (.ref 685) :: (.ref 686) :: (.ref 687) :: (.int 1110 0) :: (.int 461 0) :: (.str (.ofString "/claim/cut.py") 1111) :: []).toArray), #[]⟩) ::
  (nat_lit 689, ⟨(.type "function"), none, (.func ⟨(.ofString "pos"), (.ofString "KaitaiStream.pos"), sArgs (sub 15 4), .stmts (sBody (sub 15 4)), sScope (sub 15 4), 3, [], .none, .none, .none, (.str (.ofString "kaitaistruct") 986), none, (.ref 688), .none, 0⟩), #[]⟩) ::
  (nat_lit 695, ⟨(.type "code"), none, (.fields ((.str (.ofString "size") 1113) :: (.str (.ofString "KaitaiStream.size") 1114) :: (.str (.ofString "/claim/cut.py") 1115) :: (.int 464 0) :: (.int 1 0) :: (.int 0 0) :: (.int 0 0) :: (.int 3 0) :: (.ref 690) :: (.bool true) :: (.int 313 0) :: (.ref 691) :: .none :: (.ref 692) :: (.ref 693) :: (.ref 694) :: (.int 1120 0) :: (.int 464 0) :: (.str (.ofString "/claim/cut.py") 1121) :: []).toArray), #[]⟩) ::
  (nat_lit 696, ⟨(.type "function"), none, (.func ⟨(.ofString "size"), (.ofString "KaitaiStream.size"), sArgs (sub 15 5), .stmts (sBody (sub 15 5)), sScope (sub 15 5), 3, [], .none, .none, .none, (.str (.ofString "kaitaistruct") 986), none, (.ref 695), .none, 0⟩), #[]⟩) ::
  (nat_lit 723, ⟨(.type "code"), none, (.fields ((.str (.ofString "read_u1") 1144) :: (.str (.ofString "KaitaiStream.read_u1") 1145) :: (.str (.ofString "/claim/cut.py") 1146) :: (.int 482 0) :: (.int 1 0) :: (.int 0 0) :: (.int 0 0) :: (.int 3 0) :: (.ref 718) :: (.bool true) :: (.int 313 0) :: (.ref 719) :: .none :: (.ref 720) :: (.ref 721) :: (.ref 722) :: (.int 1148 0) :: (.int 482 0) :: (.str (.ofString "/claim/cut.py") 1149) :: []).toArray), #[]⟩) ::
  (nat_lit 724, ⟨(.type "function"), none, (.func ⟨(.ofString "read_u1"), (.ofString "KaitaiStream.read_u1"), sArgs (sub 15 9), .stmts (sBody (sub 15 9)), sScope (sub 15 9), 3, [], .none, .none, .none, (.str (.ofString "kaitaistruct") 986), none, (.ref 723), .none, 0⟩), #[]⟩) ::
  (nat_lit 751, ⟨(.type "code"), none, (.fields ((.str (.ofString "align_to_byte") 1172) :: (.str (.ofString "KaitaiStream.align_to_byte") 1173) :: (.str (.ofString "/claim/cut.py") 1174) :: (.int 494 0) :: (.int 1 0) :: (.int 0 0) :: (.int 0 0) :: (.int 3 0) :: (.ref 746) :: (.bool true) :: (.int 313 0) :: (.ref 747) :: .none :: (.ref 748) :: (.ref 749) :: (.ref 750) :: (.int 1176 0) :: (.int 494 0) :: (.str (.ofString "/claim/cut.py") 1177) :: []).toArray), #[]⟩) ::
  (nat_lit 752, ⟨(.type "function"), none, (.func ⟨(.ofString "align_to_byte"), (.ofString "KaitaiStream.align_to_byte"), sArgs (sub 15 13), .stmts (sBody (sub 15 13)), sScope (sub 15 13), 3, [], .none, .none, .none, (.str (.ofString "kaitaistruct") 986), none, (.ref 751), .none, 0⟩), #[]⟩) ::
  (nat_lit 758, ⟨(.type "code"), none, (.fields ((.str (.ofString "read_bits_int_be") 1179) :: (.str (.ofString "KaitaiStream.read_bits_int_be") 1180) :: (.str (.ofString "/claim/cut.py") 1181) :: (.int 498 0) :: (.int 2 0) :: (.int 0 0) :: (.int 0 0) :: (.int 3 0) :: (.ref 753) :: (.bool true) :: (.int 313 0) :: (.ref 754) :: .none :: (.ref 755) :: (.ref 756) :: (.ref 757) :: (.int 1191 0) :: (.int 498 0) :: (.str (.ofString "/claim/cut.py") 1192) :: []).toArray), #[]⟩) ::
  (nat_lit 759, ⟨(.type "function"), none, (.func ⟨(.ofString "read_bits_int_be"), (.ofString "KaitaiStream.read_bits_int_be"), sArgs (sub 15 14), .stmts (sBody (sub 15 14)), sScope (sub 15 14), 3, [], .none, .none, .none, (.str (.ofString "kaitaistruct") 986), none, (.ref 758), .none, 0⟩), #[]⟩) ::
  (nat_lit 765, ⟨(.type "code"), none, (.fields ((.str (.ofString "read_bits_int") 1194) :: (.str (.ofString "KaitaiStream.read_bits_int") 1195) :: (.str (.ofString "/claim/cut.py") 1196) :: (.int 519 0) :: (.int 2 0) :: (.int 0 0) :: (.int 0 0) :: (.int 3 0) :: (.ref 760) :: (.bool true) :: (.int 313 0) :: (.ref 761) :: .none :: (.ref 762) :: (.ref 763) :: (.ref 764) :: (.int 1199 0) :: (.int 519 0) :: (.str (.ofString "/claim/cut.py") 1200) :: []).toArray), #[]⟩) ::
  (nat_lit 766, ⟨(.type "function"), none, (.func ⟨(.ofString "read_bits_int"), (.ofString "KaitaiStream.read_bits_int"), sArgs (sub 15 15), .stmts (sBody (sub 15 15)), sScope (sub 15 15), 3, [], .none, .none, .none, (.str (.ofString "kaitaistruct") 986), none, (.ref 765), .none, 0⟩), #[]⟩) ::
  (nat_lit 772, ⟨(.type "code"), none, (.fields ((.str (.ofString "read_bits_int_le") 1202) :: (.str (.ofString "KaitaiStream.read_bits_int_le") 1203) :: (.str (.ofString "/claim/cut.py") 1204) :: (.int 522 0) :: (.int 2 0) :: (.int 0 0) :: (.int 0 0) :: (.int 3 0) :: (.ref 767) :: (.bool true) :: (.int 313 0) :: (.ref 768) :: .none :: (.ref 769) :: (.ref 770) :: (.ref 771) :: (.int 1215 0) :: (.int 522 0) :: (.str (.ofString "/claim/cut.py") 1216) :: []).toArray), #[]⟩) ::
  (nat_lit 773, ⟨(.type "function"), none, (.func ⟨(.ofString "read_bits_int_le"), (.ofString "KaitaiStream.read_bits_int_le"), sArgs (sub 15 16), .stmts (sBody (sub 15 16)), sScope (sub 15 16), 3, [], .none, .none, .none, (.str (.ofString "kaitaistruct") 986), none, (.ref 772), .none, 0⟩), #[]⟩) ::
  (nat_lit 779, ⟨(.type "code"), none, (.fields ((.str (.ofString "read_bytes") 1218) :: (.str (.ofString "KaitaiStream.read_bytes") 1219) :: (.str (.ofString "/claim/cut.py") 1220) :: (.int 544 0) :: (.int 2 0) :: (.int 0 0) :: (.int 0 0) :: (.int 3 0) :: (.ref 774) :: (.bool true) :: (.int 313 0) :: (.ref 775) :: .none :: (.ref 776) :: (.ref 777) :: (.ref 778) :: (.int 1223 0) :: (.int 544 0) :: (.str (.ofString "/claim/cut.py") 1224) :: []).toArray), #[]⟩) ::
  (nat_lit 780, ⟨(.type "function"), none, (.func ⟨(.ofString "read_bytes"), (.ofString "KaitaiStream.read_bytes"), sArgs (sub 15 17), .stmts (sBody (sub 15 17)), sScope (sub 15 17), 3, [], .none, .none, .none, (.str (.ofString "kaitaistruct") 986), none, (.ref 779), .none, 0⟩), #[]⟩) ::
  (nat_lit 786, ⟨(.type "code"), none, (.fields ((.str (.ofString "_read_bytes_not_aligned") 1226) :: (.str (.ofString "KaitaiStream._read_bytes_not_aligned") 1227) :: (.str (.ofString "/claim/cut.py") 1228) :: (.int 548 0) :: (.int 2 0) :: (.int 0 0) :: (.int 0 0) :: (.int 3 0) :: (.ref 781) :: (.bool true) :: (.int 313 0) :: (.ref 782) :: .none :: (.ref 783) :: (.ref 784) :: (.ref 785) :: (.int 1234 0) :: (.int 548 0) :: (.str (.ofString "/claim/cut.py") 1235) :: []).toArray), #[]⟩) ::
  (nat_lit 787, ⟨(.type "function"), none, (.func ⟨(.ofString "_read_bytes_not_aligned"), (.ofString "KaitaiStream._read_bytes_not_aligned"), sArgs (sub 15 18), .stmts (sBody (sub 15 18)), sScope (sub 15 18), 3, [], .none, .none, .none, (.str (.ofString "kaitaistruct") 986), none, (.ref 786), .none, 0⟩), #[]⟩) ::
  (nat_lit 793, ⟨(.type "code"), none, (.fields ((.str (.ofString "read_bytes_full") 1237) :: (.str (.ofString "KaitaiStream.read_bytes_full") 1238) :: (.str (.ofString "/claim/cut.py") 1239) :: (.int 563 0) :: (.int 1 0) :: (.int 0 0) :: (.int 0 0) :: (.int 3 0) :: (.ref 788) :: (.bool true) :: (.int 313 0) :: (.ref 789) :: .none :: (.ref 790) :: (.ref 791) :: (.ref 792) :: (.int 1241 0) :: (.int 563 0) :: (.str (.ofString "/claim/cut.py") 1242) :: []).toArray), #[]⟩) ::
  (nat_lit 794, ⟨(.type "function"), none, (.func ⟨(.ofString "read_bytes_full"), (.ofString "KaitaiStream.read_bytes_full"), sArgs (sub 15 19), .stmts (sBody (sub 15 19)), sScope (sub 15 19), 3, [], .none, .none, .none, (.str (.ofString "kaitaistruct") 986), none, (.ref 793), .none, 0⟩), #[]⟩) ::
  (nat_lit 814, ⟨(.type "code"), none, (.fields ((.str (.ofString "ensure_fixed_contents") 1266) :: (.str (.ofString "KaitaiStream.ensure_fixed_contents") 1267) :: (.str (.ofString "/claim/cut.py") 1268) :: (.int 573 0) :: (.int 2 0) :: (.int 0 0) :: (.int 0 0) :: (.int 3 0) :: (.ref 809) :: (.bool true) :: (.int 313 0) :: (.ref 810) :: .none :: (.ref 811) :: (.ref 812) :: (.ref 813) :: (.int 1272 0) :: (.int 573 0) :: (.str (.ofString "/claim/cut.py") 1273) :: []).toArray), #[]⟩) ::
  (nat_lit 815, ⟨(.type "function"), none, (.func ⟨(.ofString "ensure_fixed_contents"), (.ofString "KaitaiStream.ensure_fixed_contents"), sArgs (sub 15 22), .stmts (sBody (sub 15 22)), sScope (sub 15 22), 3, [], .none, .none, .none, (.str (.ofString "kaitaistruct") 986), none, (.ref 814), .none, 0⟩), #[]⟩) ::
  (nat_lit 1049, ⟨(.type "code"), none, (.fields ((.str (.ofString "to_byte_array") 1655) :: (.str (.ofString "KaitaiStream.to_byte_array") 1656) :: (.str (.ofString "/claim/cut.py") 1657) :: (.int 686 0) :: (.int 1 0) :: (.int 0 0) :: (.int 0 0) :: (.int 3 0) :: (.ref 1044) :: (.bool true) :: (.int 313 0) :: (.ref 1045) :: .none :: (.ref 1046) :: (.ref 1047) :: (.ref 1048) :: (.int 1661 0) :: (.int 686 0) :: (.str (.ofString "/claim/cut.py") 1662) :: []).toArray), #[]⟩) ::
  (nat_lit 1050, ⟨(.type "function"), none, (.func ⟨(.ofString "to_byte_array"), (.ofString "KaitaiStream.to_byte_array"), sArgs (sub 15 50), .stmts (sBody (sub 15 50)), sScope (sub 15 50), 3, [], .none, .none, .none, (.str (.ofString "kaitaistruct") 986), none, (.ref 1049), .none, 0⟩), #[]⟩) ::
  (nat_lit 1074, ⟨(.type "dict"), none, (.dict (⟨PyData.keyHash P (.ofString "__module__"), (.str (.ofString "__module__") 1071), (.str (.ofString "kaitaistruct") 986)⟩ :: ⟨PyData.keyHash P (.ofString "__firstlineno__"), (.str (.ofString "__firstlineno__") 1075), (.int 424 1074)⟩ :: ⟨PyData.keyHash P (.ofString "__init__"), (.str (.ofString "__init__") 1083), (.ref 661)⟩ :: ⟨PyData.keyHash P (.ofString "close"), (.str (.ofString "close") 1090), (.ref 668)⟩ :: ⟨PyData.keyHash P (.ofString "is_eof"), (.str (.ofString "is_eof") 1097), (.ref 675)⟩ :: ⟨PyData.keyHash P (.ofString "seek"), (.str (.ofString "seek") 1105), (.ref 682)⟩ :: ⟨PyData.keyHash P (.ofString "pos"), (.str (.ofString "pos") 1112), (.ref 689)⟩ :: ⟨PyData.keyHash P (.ofString "size"), (.str (.ofString "size") 1122), (.ref 696)⟩ :: ⟨PyData.keyHash P (.ofString "read_s1"), (.str (.ofString "read_s1") 1129), (.ref 703)⟩ :: ⟨PyData.keyHash P (.ofString "read_s4be"), (.str (.ofString "read_s4be") 1136), (.ref 710)⟩ :: ⟨PyData.keyHash P (.ofString "read_s2le"), (.str (.ofString "read_s2le") 1143), (.ref 717)⟩ :: ⟨PyData.keyHash P (.ofString "read_u1"), (.str (.ofString "read_u1") 1150), (.ref 724)⟩ :: ⟨PyData.keyHash P (.ofString "read_u2be"), (.str (.ofString "read_u2be") 1157), (.ref 731)⟩ :: ⟨PyData.keyHash P (.ofString "read_u8be"), (.str (.ofString "read_u8be") 1164), (.ref 738)⟩ :: ⟨PyData.keyHash P (.ofString "read_u4le"), (.str (.ofString "read_u4le") 1171), (.ref 745)⟩ :: ⟨PyData.keyHash P (.ofString "align_to_byte"), (.str (.ofString "align_to_byte") 1178), (.ref 752)⟩ :: ⟨PyData.keyHash P (.ofString "read_bits_int_be"), (.str (.ofString "read_bits_int_be") 1193), (.ref 759)⟩ :: ⟨PyData.keyHash P (.ofString "read_bits_int"), (.str (.ofString "read_bits_int") 1201), (.ref 766)⟩ :: ⟨PyData.keyHash P (.ofString "read_bits_int_le"), (.str (.ofString "read_bits_int_le") 1217), (.ref 773)⟩ :: ⟨PyData.keyHash P (.ofString "read_bytes"), (.str (.ofString "read_bytes") 1225), (.ref 780)⟩ :: ⟨PyData.keyHash P (.ofString "_read_bytes_not_aligned"), (.str (.ofString "_read_bytes_not_aligned") 1236), (.ref 787)⟩ :: ⟨PyData.keyHash P (.ofString "read_bytes_full"), (.str (.ofString "read_bytes_full") 1243), (.ref 794)⟩ :: ⟨PyData.keyHash P (.ofString "read_bytes_term"), (.str (.ofString "read_bytes_term") 1254), (.ref 801)⟩ :: ⟨PyData.keyHash P (.ofString "read_bytes_term_multi"), (.str (.ofString "read_bytes_term_multi") 1265), (.ref 808)⟩ :: ⟨PyData.keyHash P (.ofString "ensure_fixed_contents"), (.str (.ofString "ensure_fixed_contents") 1274), (.ref 815)⟩ :: ⟨PyData.keyHash P (.ofString "bytes_strip_right"), (.str (.ofString "bytes_strip_right") 1294), (.ref 824)⟩ :: ⟨PyData.keyHash P (.ofString "bytes_terminate"), (.str (.ofString "bytes_terminate") 1315), (.ref 834)⟩ :: ⟨PyData.keyHash P (.ofString "bytes_terminate_multi"), (.str (.ofString "bytes_terminate_multi") 1336), (.ref 844)⟩ :: ⟨PyData.keyHash P (.ofString "_ensure_bytes_left_to_write"), (.str (.ofString "_ensure_bytes_left_to_write") 1347), (.ref 852)⟩ :: ⟨PyData.keyHash P (.ofString "write_s1"), (.str (.ofString "write_s1") 1355), (.ref 859)⟩ :: ⟨PyData.keyHash P (.ofString "write_s4be"), (.str (.ofString "write_s4be") 1363), (.ref 866)⟩ :: ⟨PyData.keyHash P (.ofString "write_s2le"), (.str (.ofString "write_s2le") 1371), (.ref 873)⟩ :: ⟨PyData.keyHash P (.ofString "write_u1"), (.str (.ofString "write_u1") 1379), (.ref 880)⟩ :: ⟨PyData.keyHash P (.ofString "write_u2be"), (.str (.ofString "write_u2be") 1387), (.ref 887)⟩ :: ⟨PyData.keyHash P (.ofString "write_u8be"), (.str (.ofString "write_u8be") 1395), (.ref 894)⟩ :: ⟨PyData.keyHash P (.ofString "write_u4le"), (.str (.ofString "write_u4le") 1403), (.ref 901)⟩ :: ⟨PyData.keyHash P (.ofString "write_align_to_byte"), (.str (.ofString "write_align_to_byte") 1411), (.ref 908)⟩ :: ⟨PyData.keyHash P (.ofString "write_bits_int_be"), (.str (.ofString "write_bits_int_be") 1420), (.ref 915)⟩ :: ⟨PyData.keyHash P (.ofString "write_bits_int_le"), (.str (.ofString "write_bits_int_le") 1429), (.ref 922)⟩ :: ⟨PyData.keyHash P (.ofString "write_bytes"), (.str (.ofString "write_bytes") 1437), (.ref 929)⟩ :: ⟨PyData.keyHash P (.ofString "_write_bytes_not_aligned"), (.str (.ofString "_write_bytes_not_aligned") 1446), (.ref 936)⟩ :: ⟨PyData.keyHash P (.ofString "write_bytes_limit"), (.str (.ofString "write_bytes_limit") 1457), (.ref 943)⟩ :: ⟨PyData.keyHash P (.ofString "process_xor_one"), (.str (.ofString "process_xor_one") 1477), (.ref 952)⟩ :: ⟨PyData.keyHash P (.ofString "process_xor_many"), (.str (.ofString "process_xor_many") 1497), (.ref 962)⟩ :: ⟨PyData.keyHash P (.ofString "process_rotate_left"), (.str (.ofString "process_rotate_left") 1518), (.ref 972)⟩ :: ⟨PyData.keyHash P (.ofString "int_from_byte"), (.str (.ofString "int_from_byte") 1537), (.ref 982)⟩ :: ⟨PyData.keyHash P (.ofString "byte_from_int"), (.str (.ofString "byte_from_int") 1556), (.ref 992)⟩ :: ⟨PyData.keyHash P (.ofString "byte_array_index"), (.str (.ofString "byte_array_index") 1576), (.ref 1002)⟩ :: ⟨PyData.keyHash P (.ofString "byte_array_min"), (.str (.ofString "byte_array_min") 1595), (.ref 1012)⟩ :: ⟨PyData.keyHash P (.ofString "byte_array_max"), (.str (.ofString "byte_array_max") 1614), (.ref 1022)⟩ :: ⟨PyData.keyHash P (.ofString "byte_array_index_of"), (.str (.ofString "byte_array_index_of") 1634), (.ref 1032)⟩ :: ⟨PyData.keyHash P (.ofString "resolve_enum"), (.str (.ofString "resolve_enum") 1654), (.ref 1042)⟩ :: ⟨PyData.keyHash P (.ofString "to_byte_array"), (.str (.ofString "to_byte_array") 1663), (.ref 1050)⟩ :: ⟨PyData.keyHash P (.ofString "add_child_stream"), (.str (.ofString "add_child_stream") 1671), (.ref 1057)⟩ :: ⟨PyData.keyHash P (.ofString "write_back_child_streams"), (.str (.ofString "write_back_child_streams") 1679), (.ref 1065)⟩ :: ⟨PyData.keyHash P (.ofString "_write_back"), (.str (.ofString "_write_back") 1687), (.ref 1072)⟩ :: ⟨PyData.keyHash P (.ofString "__static_attributes__"), (.str (.ofString "__static_attributes__") 1696), (.ref 1073)⟩ :: ⟨PyData.keyHash P (.ofString "__dict__"), (.str (.ofString "__dict__") 1698), (.ref 1076)⟩ :: ⟨PyData.keyHash P (.ofString "__weakref__"), (.str (.ofString "__weakref__") 1700), (.ref 1077)⟩ :: ⟨PyData.keyHash P (.ofString "__doc__"), (.str (.ofString "__doc__") 1701), .none⟩ :: []).toArray 4), #[]⟩) ::
  (nat_lit 1075, ⟨(.type "type"), none, (.cls ⟨(.ofString "KaitaiStream"), [(.type "object")], [(.ref 1075), (.type "object")], 1074, (.ofString "KaitaiStream"), true, [], [], false, none, false⟩), [(some (.ref 648)), none, (some (.str (.ofString "KaitaiStream") 1064)), (some (.str (.ofString "KaitaiStream") 1072)), (some (.builtin "object.__new__")), (some (.bool true))].toArray⟩) ::
  (nat_lit 1083, ⟨(.type "cell"), none, (.cell (some (.ref 1098))), #[]⟩) ::
  (nat_lit 1088, ⟨(.type "tuple"), none, (.seq [(.ref 1083)].toArray 0), #[]⟩) ::
  (nat_lit 1094, ⟨(.type "code"), none, (.fields ((.str (.ofString "__init__") 1716) :: (.str (.ofString "KaitaiStructError.__init__") 1717) :: (.str (.ofString "/claim/cut.py") 1718) :: (.int 703 0) :: (.int 3 0) :: (.int 0 0) :: (.int 0 0) :: (.int 3 0) :: (.ref 1089) :: (.bool true) :: (.int 313 0) :: (.ref 1090) :: .none :: (.ref 1091) :: (.ref 1092) :: (.ref 1093) :: (.int 1723 0) :: (.int 703 0) :: (.str (.ofString "/claim/cut.py") 1724) :: []).toArray), #[]⟩) ::
  (nat_lit 1095, ⟨(.type "function"), none, (.func ⟨(.ofString "__init__"), (.ofString "KaitaiStructError.__init__"), sArgs (sub 16 0), .stmts (sBody (sub 16 0)), sScope (sub 16 0), 3, [((.ofString "__class__"), 1083)], .none, .none, .none, (.str (.ofString "kaitaistruct") 986), none, (.ref 1094), (.ref 1088), 0⟩), #[]⟩) ::
  (nat_lit 1097, ⟨(.type "dict"), none, (.dict [⟨PyData.keyHash P (.ofString "__module__"), (.str (.ofString "__module__") 1711), (.str (.ofString "kaitaistruct") 986)⟩, ⟨PyData.keyHash P (.ofString "__firstlineno__"), (.str (.ofString "__firstlineno__") 1715), (.int 701 1714)⟩, ⟨PyData.keyHash P (.ofString "__init__"), (.str (.ofString "__init__") 1725), (.ref 1095)⟩, ⟨PyData.keyHash P (.ofString "__static_attributes__"), (.str (.ofString "__static_attributes__") 1727), (.ref 1096)⟩, ⟨PyData.keyHash P (.ofString "__weakref__"), (.str (.ofString "__weakref__") 1730), (.ref 1099)⟩, ⟨PyData.keyHash P (.ofString "__doc__"), (.str (.ofString "__doc__") 1731), .none⟩].toArray 4), #[]⟩) ::
  (nat_lit 1098, ⟨(.type "type"), none, (.cls ⟨(.ofString "KaitaiStructError"), [(.type "Exception")], [(.ref 1098), (.type "Exception"), (.type "BaseException"), (.type "object")], 1097, (.ofString "KaitaiStructError"), true, [], [(.ref 1120), (.ref 1141)], false, none, false⟩), [(some (.ref 1080)), none, (some (.str (.ofString "KaitaiStructError") 1704)), (some (.str (.ofString "KaitaiStructError") 1712)), (some (.builtin "Exception.__new__")), (some (.bool true))].toArray⟩) ::
  (nat_lit 1105, ⟨(.type "cell"), none, (.cell (some (.ref 1120))), #[]⟩) ::
  (nat_lit 1110, ⟨(.type "tuple"), none, (.seq [(.ref 1105)].toArray 0), #[]⟩) ::
  (nat_lit 1116, ⟨(.type "code"), none, (.fields ((.str (.ofString "__init__") 1748) :: (.str (.ofString "InvalidArgumentError.__init__") 1749) :: (.str (.ofString "/claim/cut.py") 1750) :: (.int 708 0) :: (.int 2 0) :: (.int 0 0) :: (.int 0 0) :: (.int 3 0) :: (.ref 1111) :: (.bool true) :: (.int 313 0) :: (.ref 1112) :: .none :: (.ref 1113) :: (.ref 1114) :: (.ref 1115) :: (.int 1754 0) :: (.int 708 0) :: (.str (.ofString "/claim/cut.py") 1755) :: []).toArray), #[]⟩) ::
  (nat_lit 1117, ⟨(.type "function"), none, (.func ⟨(.ofString "__init__"), (.ofString "InvalidArgumentError.__init__"), sArgs (sub 17 0), .stmts (sBody (sub 17 0)), sScope (sub 17 0), 3, [((.ofString "__class__"), 1105)], .none, .none, .none, (.str (.ofString "kaitaistruct") 986), none, (.ref 1116), (.ref 1110), 0⟩), #[]⟩) ::
  (nat_lit 1119, ⟨(.type "dict"), none, (.dict [⟨PyData.keyHash P (.ofString "__module__"), (.str (.ofString "__module__") 1743), (.str (.ofString "kaitaistruct") 986)⟩, ⟨PyData.keyHash P (.ofString "__firstlineno__"), (.str (.ofString "__firstlineno__") 1747), (.int 706 1746)⟩, ⟨PyData.keyHash P (.ofString "__init__"), (.str (.ofString "__init__") 1756), (.ref 1117)⟩, ⟨PyData.keyHash P (.ofString "__static_attributes__"), (.str (.ofString "__static_attributes__") 1757), (.ref 1118)⟩, ⟨PyData.keyHash P (.ofString "__doc__"), (.str (.ofString "__doc__") 1759), .none⟩].toArray 3), #[]⟩) ::
  (nat_lit 1120, ⟨(.type "type"), none, (.cls ⟨(.ofString "InvalidArgumentError"), [(.ref 1098), (.type "ValueError")], [(.ref 1120), (.ref 1098), (.type "ValueError"), (.type "Exception"), (.type "BaseException"), (.type "object")], 1119, (.ofString "InvalidArgumentError"), true, [], [], false, none, false⟩), [(some (.ref 1102)), none, (some (.str (.ofString "InvalidArgumentError") 1736)), (some (.str (.ofString "InvalidArgumentError") 1744)), (some (.builtin "Exception.__new__")), (some (.bool true))].toArray⟩) ::
  (nat_lit 1126, ⟨(.type "cell"), none, (.cell (some (.ref 1141))), #[]⟩) ::
  (nat_lit 1131, ⟨(.type "tuple"), none, (.seq [(.ref 1126)].toArray 0), #[]⟩) ::
  (nat_lit 1137, ⟨(.type "code"), none, (.fields ((.str (.ofString "__init__") 1774) :: (.str (.ofString "EndOfStreamError.__init__") 1775) :: (.str (.ofString "/claim/cut.py") 1776) :: (.int 712 0) :: (.int 4 0) :: (.int 0 0) :: (.int 0 0) :: (.int 3 0) :: (.ref 1132) :: (.bool true) :: (.int 313 0) :: (.ref 1133) :: .none :: (.ref 1134) :: (.ref 1135) :: (.ref 1136) :: (.int 1782 0) :: (.int 712 0) :: (.str (.ofString "/claim/cut.py") 1783) :: []).toArray), #[]⟩) ::
  (nat_lit 1138, ⟨(.type "function"), none, (.func ⟨(.ofString "__init__"), (.ofString "EndOfStreamError.__init__"), sArgs (sub 18 0), .stmts (sBody (sub 18 0)), sScope (sub 18 0), 3, [((.ofString "__class__"), 1126)], .none, .none, .none, (.str (.ofString "kaitaistruct") 986), none, (.ref 1137), (.ref 1131), 0⟩), #[]⟩) ::
  (nat_lit 1140, ⟨(.type "dict"), none, (.dict [⟨PyData.keyHash P (.ofString "__module__"), (.str (.ofString "__module__") 1769), (.str (.ofString "kaitaistruct") 986)⟩, ⟨PyData.keyHash P (.ofString "__firstlineno__"), (.str (.ofString "__firstlineno__") 1773), (.int 710 1772)⟩, ⟨PyData.keyHash P (.ofString "__init__"), (.str (.ofString "__init__") 1784), (.ref 1138)⟩, ⟨PyData.keyHash P (.ofString "__static_attributes__"), (.str (.ofString "__static_attributes__") 1787), (.ref 1139)⟩, ⟨PyData.keyHash P (.ofString "__doc__"), (.str (.ofString "__doc__") 1789), .none⟩].toArray 3), #[]⟩) ::
  (nat_lit 1141, ⟨(.type "type"), none, (.cls ⟨(.ofString "EndOfStreamError"), [(.ref 1098), (.type "EOFError")], [(.ref 1141), (.ref 1098), (.type "EOFError"), (.type "Exception"), (.type "BaseException"), (.type "object")], 1140, (.ofString "EndOfStreamError"), true, [], [], false, none, false⟩), [(some (.ref 1123)), none, (some (.str (.ofString "EndOfStreamError") 1762)), (some (.str (.ofString "EndOfStreamError") 1770)), (some (.builtin "Exception.__new__")), (some (.bool true))].toArray⟩) ::
  (nat_lit 1149, ⟨(.type "code"), none, (.fields ((.str (.ofString "_law_shown") 1798) :: (.str (.ofString "_law_shown") 1799) :: (.str (.ofString "/claim/cut.py") 1800) :: (.int 718 0) :: (.int 1 0) :: (.int 0 0) :: (.int 0 0) :: (.int 3 0) :: (.ref 1144) :: (.bool true) :: (.int 313 0) :: (.ref 1145) :: .none :: (.ref 1146) :: (.ref 1147) :: (.ref 1148) :: (.int 1805 0) :: (.int 718 0) :: (.str (.ofString "/claim/cut.py") 1806) :: []).toArray), #[]⟩) ::
  (nat_lit 1150, ⟨(.type "function"), none, (.func ⟨(.ofString "_law_shown"), (.ofString "_law_shown"), sArgs (stm 21), .stmts (sBody (stm 21)), sScope (stm 21), 3, [], .none, .none, .none, (.str (.ofString "law_bq5014_02") 1794), none, (.ref 1149), .none, 0⟩), #[]⟩) ::
  (nat_lit 1154, ⟨(.type "code"), none, (.fields ((.str (.ofString "_law_digits") 1808) :: (.str (.ofString "_law_digits") 1809) :: (.str (.ofString "/claim/cut.py") 1810) :: (.int 735 0) :: (.int 1 0) :: (.int 0 0) :: (.int 0 0) :: (.int 3 0) :: (.ref 1151) :: (.bool true) :: (.int 313 0) :: (.ref 1152) :: .none :: .none :: .none :: (.ref 1153) :: (.int 1811 0) :: (.int 735 0) :: (.str (.ofString "/claim/cut.py") 1812) :: []).toArray), #[]⟩) ::
  (nat_lit 1155, ⟨(.type "function"), none, (.func ⟨(.ofString "_law_digits"), (.ofString "_law_digits"), sArgs (stm 22), .stmts (sBody (stm 22)), sScope (stm 22), 3, [], .none, .none, .none, (.str (.ofString "law_bq5014_02") 1794), none, (.ref 1154), .none, 0⟩), #[]⟩) ::
  (nat_lit 1161, ⟨(.type "code"), none, (.fields ((.str (.ofString "_law_worth") 1814) :: (.str (.ofString "_law_worth") 1815) :: (.str (.ofString "/claim/cut.py") 1816) :: (.int 737 0) :: (.int 1 0) :: (.int 0 0) :: (.int 0 0) :: (.int 3 0) :: (.ref 1156) :: (.bool true) :: (.int 313 0) :: (.ref 1157) :: .none :: (.ref 1158) :: (.ref 1159) :: (.ref 1160) :: (.int 1820 0) :: (.int 737 0) :: (.str (.ofString "/claim/cut.py") 1821) :: []).toArray), #[]⟩) ::
  (nat_lit 1162, ⟨(.type "function"), none, (.func ⟨(.ofString "_law_worth"), (.ofString "_law_worth"), sArgs (stm 23), .stmts (sBody (stm 23)), sScope (stm 23), 3, [], .none, .none, .none, (.str (.ofString "law_bq5014_02") 1794), none, (.ref 1161), .none, 0⟩), #[]⟩) ::
  (nat_lit 1168, ⟨(.type "code"), none, (.fields ((.str (.ofString "_law_short") 1823) :: (.str (.ofString "_law_short") 1824) :: (.str (.ofString "/claim/cut.py") 1825) :: (.int 742 0) :: (.int 2 0) :: (.int 0 0) :: (.int 0 0) :: (.int 3 0) :: (.ref 1163) :: (.bool true) :: (.int 313 0) :: (.ref 1164) :: .none :: (.ref 1165) :: (.ref 1166) :: (.ref 1167) :: (.int 1828 0) :: (.int 742 0) :: (.str (.ofString "/claim/cut.py") 1829) :: []).toArray), #[]⟩) ::
  (nat_lit 1169, ⟨(.type "function"), none, (.func ⟨(.ofString "_law_short"), (.ofString "_law_short"), sArgs (stm 24), .stmts (sBody (stm 24)), sScope (stm 24), 3, [], .none, .none, .none, (.str (.ofString "law_bq5014_02") 1794), none, (.ref 1168), .none, 0⟩), #[]⟩) ::
  (nat_lit 1175, ⟨(.type "code"), none, (.fields ((.str (.ofString "_law_bits") 1831) :: (.str (.ofString "_law_bits") 1832) :: (.str (.ofString "/claim/cut.py") 1833) :: (.int 744 0) :: (.int 5 0) :: (.int 0 0) :: (.int 0 0) :: (.int 3 0) :: (.ref 1170) :: (.bool true) :: (.int 313 0) :: (.ref 1171) :: .none :: (.ref 1172) :: (.ref 1173) :: (.ref 1174) :: (.int 1844 0) :: (.int 744 0) :: (.str (.ofString "/claim/cut.py") 1845) :: []).toArray), #[]⟩) ::
  (nat_lit 1176, ⟨(.type "function"), none, (.func ⟨(.ofString "_law_bits"), (.ofString "_law_bits"), sArgs (stm 25), .stmts (sBody (stm 25)), sScope (stm 25), 3, [], .none, .none, .none, (.str (.ofString "law_bq5014_02") 1794), none, (.ref 1175), .none, 0⟩), #[]⟩) ::
  (nat_lit 1182, ⟨(.type "code"), none, (.fields ((.str (.ofString "_law_ask") 1847) :: (.str (.ofString "_law_ask") 1848) :: (.str (.ofString "/claim/cut.py") 1849) :: (.int 756 0) :: (.int 3 0) :: (.int 0 0) :: (.int 0 0) :: (.int 3 0) :: (.ref 1177) :: (.bool true) :: (.int 313 0) :: (.ref 1178) :: .none :: (.ref 1179) :: (.ref 1180) :: (.ref 1181) :: (.int 1854 0) :: (.int 756 0) :: (.str (.ofString "/claim/cut.py") 1855) :: []).toArray), #[]⟩) ::
  (nat_lit 1183, ⟨(.type "function"), none, (.func ⟨(.ofString "_law_ask"), (.ofString "_law_ask"), sArgs (stm 26), .stmts (sBody (stm 26)), sScope (stm 26), 3, [], .none, .none, .none, (.str (.ofString "law_bq5014_02") 1794), none, (.ref 1182), .none, 0⟩), #[]⟩) ::
  (nat_lit 1189, ⟨(.type "code"), none, (.fields ((.str (.ofString "_law_check") 1857) :: (.str (.ofString "_law_check") 1858) :: (.str (.ofString "/claim/cut.py") 1859) :: (.int 765 0) :: (.int 2 0) :: (.int 0 0) :: (.int 0 0) :: (.int 3 0) :: (.ref 1184) :: (.bool true) :: (.int 313 0) :: (.ref 1185) :: .none :: (.ref 1186) :: (.ref 1187) :: (.ref 1188) :: (.int 1863 0) :: (.int 765 0) :: (.str (.ofString "/claim/cut.py") 1864) :: []).toArray), #[]⟩) ::
  (nat_lit 1190, ⟨(.type "function"), none, (.func ⟨(.ofString "_law_check"), (.ofString "_law_check"), sArgs (stm 27), .stmts (sBody (stm 27)), sScope (stm 27), 3, [], .none, .none, .none, (.str (.ofString "law_bq5014_02") 1794), none, (.ref 1189), .none, 0⟩), #[]⟩) ::
  (nat_lit 1194, ⟨(.type "code"), none, (.fields ((.str (.ofString "law") 1866) :: (.str (.ofString "law") 1867) :: (.str (.ofString "/claim/cut.py") 1868) :: (.int 772 0) :: (.int 1 0) :: (.int 0 0) :: (.int 0 0) :: (.int 3 0) :: (.ref 1191) :: (.bool true) :: (.int 313 0) :: (.ref 1192) :: .none :: .none :: .none :: (.ref 1193) :: (.int 1869 0) :: (.int 772 0) :: (.str (.ofString "/claim/cut.py") 1870) :: []).toArray), #[]⟩) ::
  (nat_lit 1195, ⟨(.type "function"), none, (.func ⟨(.ofString "law"), (.ofString "law"), sArgs (stm 28), .stmts (sBody (stm 28)), sScope (stm 28), 3, [], .none, .none, .none, (.str (.ofString "law_bq5014_02") 1794), none, (.ref 1194), .none, 0⟩), #[]⟩) :: []
def as : List Addr := (nat_lit 2 :: nat_lit 3 :: nat_lit 55 :: nat_lit 56 :: nat_lit 62 :: nat_lit 63 :: nat_lit 72 :: nat_lit 73 :: nat_lit 89 :: nat_lit 90 :: nat_lit 92 :: nat_lit 93 :: nat_lit 94 :: nat_lit 107 :: nat_lit 108 :: nat_lit 119 :: nat_lit 120 :: nat_lit 130 :: nat_lit 136 :: nat_lit 137 :: nat_lit 143 :: nat_lit 144 :: nat_lit 249 :: nat_lit 250 :: nat_lit 251 :: nat_lit 257 :: nat_lit 258 :: nat_lit 267 :: nat_lit 273 :: nat_lit 274 :: nat_lit 349 :: nat_lit 350 :: nat_lit 596 :: nat_lit 597 :: nat_lit 612 :: nat_lit 613 :: nat_lit 626 :: nat_lit 627 :: nat_lit 629 :: nat_lit 642 :: nat_lit 643 :: nat_lit 660 :: nat_lit 661 :: nat_lit 674 :: nat_lit 675 :: nat_lit 681 :: nat_lit 682 :: nat_lit 688 :: nat_lit 689 :: nat_lit 695 :: nat_lit 696 :: nat_lit 723 :: nat_lit 724 :: nat_lit 751 :: nat_lit 752 :: nat_lit 758 :: nat_lit 759 :: nat_lit 765 :: nat_lit 766 :: nat_lit 772 :: nat_lit 773 :: nat_lit 779 :: nat_lit 780 :: nat_lit 786 :: nat_lit 787 :: nat_lit 793 :: nat_lit 794 :: nat_lit 814 :: nat_lit 815 :: nat_lit 1049 :: nat_lit 1050 :: nat_lit 1074 :: nat_lit 1075 :: nat_lit 1083 :: nat_lit 1088 :: nat_lit 1094 :: nat_lit 1095 :: nat_lit 1097 :: nat_lit 1098 :: nat_lit 1105 :: nat_lit 1110 :: nat_lit 1116 :: nat_lit 1117 :: nat_lit 1119 :: nat_lit 1120 :: nat_lit 1126 :: nat_lit 1131 :: nat_lit 1137 :: nat_lit 1138 :: nat_lit 1140 :: nat_lit 1141 :: nat_lit 1149 :: nat_lit 1150 :: nat_lit 1154 :: nat_lit 1155 :: nat_lit 1161 :: nat_lit 1162 :: nat_lit 1168 :: nat_lit 1169 :: nat_lit 1175 :: nat_lit 1176 :: nat_lit 1182 :: nat_lit 1183 :: nat_lit 1189 :: nat_lit 1190 :: nat_lit 1194 :: nat_lit 1195 :: [])
def seenAt (s : SharedT) (a : Addr) : Option Obj := match Nat.blt a s.n with
  | true => (s.tree.get a).bind alive
  | false => none
theorem seenAt_of {s : SharedT} {a : Addr} {o : Obj} (h : seenAt s a = some o) : s.abs.heap.get? a = some o := by
  unfold seenAt at h
  cases e : Nat.blt a s.n with
  | false => rw [e] at h; cases h
  | true =>
    rw [e] at h
    obtain ⟨o', h1, h2⟩ := Option.bind_eq_some_iff.mp h
    have := abs_get (life := s.life) (Nat.le_of_ble_eq_true e) h1
    exact this.trans h2
theorem seen_all {s : SharedT} : ∀ {l : List Addr} {k : List (Addr × Obj)}, l.map (seenAt s) = k.map (fun p => some p.2) → l.map s.abs.heap.get? = k.map fun p => some p.2
  | [], [], _ => rfl
  | [], _ :: _, h => by cases h
  | _ :: _, [], h => by cases h
  | a :: l, p :: k, h => by
    simp only [List.map_cons, List.cons.injEq] at h ⊢
    exact ⟨seenAt_of h.1, seen_all h.2⟩
def Xt (s : Shared) : Bool := xlAt q [] s && recOk [] s
def N : Nat := 18476
def all (w : World) :=
  (fencedOpening treeTable prog w N).bind fun s₀ =>
    match s₀.heap.isNs mainGlobals && s₀.gens.size == 0 with
    | true => match toT? s₀.heap.objs.toList .nil 0 with
      | some t => (runT treeTable prog w s₀.heap.objs.size (s₀.heap.nsMap mainGlobals "__annotations__") N (sT s₀ t) (topStub prog)).bind fun s =>
        match staticsOk (importedModules prog.main.body) s₀.heap s.abs.heap && namesBound prog s.abs.heap && gensDone s.abs && laidKept s₀.heap s.abs.heap with
        | true => some (openSeen q loose (importedModules prog.main.body) Xt true s.abs, as.map (seenAt s))
        | false => none
      | none => none
    | false => none
def good (w : World) := some (openGood q loose, (K w.params).map fun p => some p.2)
theorem left_of (h : ∀ w, all w = good w) : LeftO prog q loose Xt (fun s => as.map s.heap.get?) (fun w => (K w.params).map fun p => some p.2) N := fun w => by
  have h := h w
  unfold all at h
  obtain ⟨s₀, h1, h2⟩ := Option.bind_eq_some_iff.mp h
  unfold openEnds
  rw [h1]
  show (topFrom treeTable prog w N s₀).map _ = _
  unfold topFrom
  cases e1 : (s₀.heap.isNs mainGlobals && s₀.gens.size == 0) with
  | false => rw [e1] at h2; cases h2
  | true =>
    rw [e1] at h2
    cases e2 : toT? s₀.heap.objs.toList .nil 0 with
    | none => rw [e2] at h2; cases h2
    | some t =>
      rw [e2] at h2
      obtain ⟨s, h3, h4⟩ := Option.bind_eq_some_iff.mp h2
      have h5 := runT_of h3
      rw [sT_abs e2] at h5
      dsimp only
      rw [h5]
      show Option.map _ (match staticsOk (importedModules prog.main.body) s₀.heap s.abs.heap && namesBound prog s.abs.heap && gensDone s.abs && laidKept s₀.heap s.abs.heap with | true => some s.abs | false => none) = _
      cases e3 : (staticsOk (importedModules prog.main.body) s₀.heap s.abs.heap && namesBound prog s.abs.heap && gensDone s.abs && laidKept s₀.heap s.abs.heap) with
      | false => rw [e3] at h4; cases h4
      | true =>
        rw [e3] at h4
        obtain ⟨h6, h7⟩ := Prod.mk.inj (Option.some.inj h4)
        exact congrArg some (Prod.ext h6 (seen_all h7))
theorem e_all : all = all := rfl
theorem e_good : good = good := rfl
lay_quick all good
name_quick allQ for Mine.all by Mine.e_all
name_quick goodQ for Mine.good by Mine.e_good
theorem bigQ : ∀ w, PySem.W.Fast.allQ w = PySem.W.Fast.goodQ w := by
  intro w
  kernel_rfl
set_option maxHeartbeats 0 in
theorem big (w : World) : all w = good w := by
  rw [PySem.W.Fast.allQ_eq, PySem.W.Fast.goodQ_eq]
  exact bigQ w
theorem left : LeftO prog q loose Xt (fun s => as.map s.heap.get?) (fun w => (K w.params).map fun p => some p.2) N := left_of big
def sPos : Stmt → Pos
  | .FunctionDef _ _ _ _ _ _ _ _ _ p => p
  | _ => ⟨0, 0, 0, 0⟩
def lawRec : DefRec := { name := "law", params := sArgs (stm 28), body := sBody (stm 28), scope := sScope (stm 28), pos := sPos (stm 28) }
theorem hd (walk : WalkC q loose (XL q []) (kHook K as (fun _ => by kernel_rfl)).says PySem.Challenge.rw_bq5014_02.row.toRowW lawRec [] fun f vs => PySem.call f vs) : PySem.Challenge.rw_bq5014_02.Holds := by
  w_on
  o_law
  refine holds_openX (q := q) (loose := loose) (Xt := Xt) (XP := XL q []) (Yf := (kHook K as (fun _ => by kernel_rfl)).obs) (Ya := (kHook K as (fun _ => by kernel_rfl)).val) (YP := (kHook K as (fun _ => by kernel_rfl)).says) (N := N) left (Hook.of _) (Hook.keeps _) (fun s e => xl_of s (Bool.and_eq_true_iff.mp e).1) XL.keeps (by rfl) (by rfl) (by rfl) (fun s e => recFacts_of (Bool.and_eq_true_iff.mp e).2) (by rfl) (by first | assumption | decide +kernel) (by decide +kernel) ⟨rfl, rfl, rfl, rfl, rfl, by decide +kernel⟩ ?hw walk
  case hw => w_witness2
end Mine
end
section
open PySem PySem.W PySem.Calls PyProof.Rows
set_option maxRecDepth 100000
set_option maxHeartbeats 4000000
namespace Mine
theorem resetMk {M : Model} {A : Around} {env : Env} {x : Str} {v : Value} {Q : Unit → Shared → Prop} {E : Value → Shared → Prop} {s : Shared} (h : wpAny M A (storeName env x v) Q E s) : wpAny M A (storeName env x v) Q E s := by
  w_top off
  k_with_none
  first
    | (walk1; fail)
    | exact h
theorem pk_here (P : Params) (p : Program) : peek (K P) ⟨p, P⟩ (Bind.madeHere "object.__new__" (.ref 350)) = some () := by kernel_rfl
theorem pk_made (P : Params) (p : Program) : peek (K P) ⟨p, P⟩ (Bind.madeBy (.ref 350)) = some none := by kernel_rfl
theorem pk_type (P : Params) (p : Program) : peek (K P) ⟨p, P⟩ (isType (.ref 350)) = some true := by kernel_rfl
theorem pk_call (P : Params) (p : Program) : peek (K P) ⟨p, P⟩ (specialOf (.ref 350) "__call__") = some (some (.builtin "type.__call__")) := by kernel_rfl
theorem pk_typ (P : Params) (p : Program) : peek (K P) ⟨p, P⟩ (isInstance (.ref 350) (.type "type")) = some true := by kernel_rfl
theorem pk_mro (P : Params) (p : Program) : peek (K P) ⟨p, P⟩ (mroOf (.ref 350)) = some [.ref 350, .ref 108, .ref 93, .type "object"] := by kernel_rfl
theorem pk_cls (P : Params) (p : Program) : (peek (K P) ⟨p, P⟩ (classData 350)).map (fun c => (c.abstract, c.hasDel)) = some (false, false) := by kernel_rfl
theorem pk_chk (P : Params) (p : Program) : peek (K P) ⟨p, P⟩ (checkBuiltinCall "object.__new__" ⟨[.ref 350], []⟩) = some () := by kernel_rfl
theorem pk_chk2 (P : Params) (p : Program) : peek (K P) ⟨p, P⟩ (isSubtype (.ref 350) (.ref 350)) = some true := by kernel_rfl
theorem pk_init (P : Params) (p : Program) : peek (K P) ⟨p, P⟩ (typeLookup (.ref 350) "__init__") = some (some (.ref 137)) := by kernel_rfl
theorem pk_obj (P : Params) : ∃ oc od cd sl, (K P).lookup 350 = some ⟨oc, od, .cls cd, sl⟩ ∧ cd.abstract = false ∧ cd.hasDel = false := ⟨_, _, _, _, rfl, rfl, rfl⟩
theorem pk_chkCall (P : Params) (p : Program) (a : Value) : peek (K P) ⟨p, P⟩ (checkBuiltinCall "type.__call__" ⟨[.ref 350, a], []⟩) = some () := by kernel_rfl
theorem pk_n1 (P : Params) : typeIn (K P) (.ref 350) = some (.type "type") := by kernel_rfl
theorem pk_n2 (P : Params) : readsIn (K P) 350 (.type "type") = true := by kernel_rfl
theorem pk_n3 (P : Params) : findCls (K P) (.ref 350) (.type "type") (Str.ofString "__new__") = some (.get (.builtin "staticmethod.__get__") (.ref 94) .none (.ref 350)) := by kernel_rfl
theorem pk_n4 (P : Params) : recIn (K P) 94 "staticmethod" = some [.ref 90] := by kernel_rfl
theorem pk_fn137 (P : Params) : typeIn (K P) (.ref 137) = some (.type "function") := by kernel_rfl
theorem pk_keep350 (P : Params) (p : Program) : peek (K P) ⟨p, P⟩ (keeperOf (.ref 350)) = some .machine := by kernel_rfl
theorem pk_keep1075 (P : Params) (p : Program) : peek (K P) ⟨p, P⟩ (keeperOf (.ref 1075)) = some .machine := by kernel_rfl
theorem pk_keep643 (P : Params) (p : Program) : peek (K P) ⟨p, P⟩ (keeperOf (.ref 643)) = some .machine := by kernel_rfl
end Mine
end
section
open PySem PySem.W PyProof.Rows PySem.Builtin

namespace Mine
def wo (l : List Int) : Int := l.foldl (fun a k => a * 2 + k) 0
/-- an octet's bits, the highest first -/
def digs (o : Int) : List Int := List.map (fun k' => (o.fdiv (2 ^ (7 - k').toNat)).fmod 2) (rangeKs 0 (8 - 0 : Int).toNat)
theorem wo_go : ∀ (l : List Int) (a : Int), l.foldl (fun a k => a * 2 + k) a = a * 2 ^ l.length + wo l
  | [], a => by simp [wo]
  | k :: r, a => by
    have h1 := wo_go r (a * 2 + k)
    have h2 := wo_go r (0 * 2 + k)
    unfold wo at h2 ⊢
    rw [List.foldl_cons, h1, List.foldl_cons, h2, List.length_cons, Int.pow_succ]
    unfold wo
    generalize (2 : Int) ^ r.length = P
    generalize List.foldl (fun a k => a * 2 + k) 0 r = R
    rw [Int.add_mul, Int.add_mul, Int.zero_mul, Int.zero_mul, Int.mul_assoc, Int.mul_comm 2 P]
    omega
theorem wo_append (l1 l2 : List Int) : wo (l1 ++ l2) = wo l1 * 2 ^ l2.length + wo l2 := by
  unfold wo
  rw [List.foldl_append, wo_go]
  rfl
theorem pow_pos2 (n : Nat) : (0 : Int) < 2 ^ n := Int.pow_pos (by decide)
theorem wo_in : ∀ {l : List Int}, (∀ n ∈ l, 0 ≤ n ∧ n ≤ 1) → 0 ≤ wo l ∧ wo l < 2 ^ l.length
  | [], _ => by simp [wo]
  | k :: r, h => by
    have h1 := wo_in (l := r) fun n hn => h n (List.mem_cons_of_mem _ hn)
    have h2 := h k (List.mem_cons_self ..)
    have h3 := pow_pos2 r.length
    have e : wo (k :: r) = k * 2 ^ r.length + wo r := by
      have := wo_append [k] r
      rw [List.singleton_append] at this
      rw [this]; simp [wo]
    rw [e, List.length_cons, Int.pow_succ]
    have h4 : k = 0 ∨ k = 1 := by omega
    rcases h4 with rfl | rfl <;> omega
theorem digs_eq (o : Int) : digs o = [(o.fdiv 128).fmod 2, (o.fdiv 64).fmod 2, (o.fdiv 32).fmod 2, (o.fdiv 16).fmod 2, (o.fdiv 8).fmod 2, (o.fdiv 4).fmod 2, (o.fdiv 2).fmod 2, (o.fdiv 1).fmod 2] := by
  simp [digs, rangeKs, List.range_succ]
theorem wo_digs {o : Int} (h0 : 0 ≤ o) (h1 : o < 256) : wo (digs o) = o := by
  rw [digs_eq]
  simp only [wo, List.foldl_cons, List.foldl_nil]
  simp only [Int.fdiv_eq_ediv_of_nonneg _ (show (0 : Int) ≤ 128 by decide), Int.fdiv_eq_ediv_of_nonneg _ (show (0 : Int) ≤ 64 by decide), Int.fdiv_eq_ediv_of_nonneg _ (show (0 : Int) ≤ 32 by decide), Int.fdiv_eq_ediv_of_nonneg _ (show (0 : Int) ≤ 16 by decide), Int.fdiv_eq_ediv_of_nonneg _ (show (0 : Int) ≤ 8 by decide), Int.fdiv_eq_ediv_of_nonneg _ (show (0 : Int) ≤ 4 by decide), Int.fdiv_eq_ediv_of_nonneg _ (show (0 : Int) ≤ 2 by decide), Int.fdiv_eq_ediv_of_nonneg _ (show (0 : Int) ≤ 1 by decide), Int.fmod_eq_emod_of_nonneg _ (show (0 : Int) ≤ 2 by decide)]
  omega
theorem digs_bit {o n : Int} (h : n ∈ digs o) : 0 ≤ n ∧ n ≤ 1 := by
  obtain ⟨k, _, rfl⟩ := List.mem_map.mp h
  rw [Int.fmod_eq_emod_of_nonneg _ (by decide)]
  omega
theorem digs_len (o : Int) : (digs o).length = 8 := by simp [digs, rangeKs]
theorem flat_len : ∀ {G : List Int}, (G.flatMap digs).length = 8 * G.length
  | [] => rfl
  | g :: r => by rw [List.flatMap_cons, List.length_append, digs_len, flat_len, List.length_cons]; omega
theorem flat_lenR : ∀ {G : List Int}, (G.flatMap (fun o => (digs o).reverse)).length = 8 * G.length
  | [] => rfl
  | g :: r => by rw [List.flatMap_cons, List.length_append, List.length_reverse, digs_len, flat_lenR, List.length_cons]; omega
theorem f256_go : ∀ (l : List Int) (a : Int), l.foldl (fun a k => a * 256 + k) a = a * 2 ^ (8 * l.length) + l.foldl (fun a k => a * 256 + k) 0
  | [], a => by simp
  | k :: r, a => by
    have h1 := f256_go r (a * 256 + k)
    have h2 := f256_go r (0 * 256 + k)
    rw [List.foldl_cons, h1, List.foldl_cons, h2, List.length_cons, show 8 * (r.length + 1) = 8 * r.length + 8 by omega, Int.pow_add]
    generalize (2 : Int) ^ (8 * r.length) = P
    generalize List.foldl (fun a k => a * 256 + k) 0 r = R
    rw [show (2 : Int) ^ 8 = 256 by decide, Int.add_mul, Int.add_mul, Int.zero_mul, Int.zero_mul, Int.mul_assoc, Int.mul_comm 256 P]
    omega
theorem wo_flat : ∀ {G : List Int}, (∀ k ∈ G, 0 ≤ k ∧ k < 256) → wo (G.flatMap digs) = fold256 G
  | [], _ => rfl
  | g :: r, h => by
    have h1 := wo_flat (G := r) fun k hk => h k (List.mem_cons_of_mem _ hk)
    have h2 := h g (List.mem_cons_self ..)
    rw [List.flatMap_cons, wo_append, h1, wo_digs h2.1 h2.2, flat_len]
    unfold fold256
    rw [List.foldl_cons, f256_go r (0 * 256 + g), Int.zero_mul, Int.zero_add]
theorem flat_bit {G : List Int} : ∀ x ∈ G.flatMap digs, 0 ≤ x ∧ x ≤ 1 := fun x hx => by
  obtain ⟨o, _, h⟩ := List.mem_flatMap.mp hx
  exact digs_bit h
theorem flat_bitR {G : List Int} : ∀ x ∈ G.flatMap (fun o => (digs o).reverse), 0 ≤ x ∧ x ≤ 1 := fun x hx => by
  obtain ⟨o, _, h⟩ := List.mem_flatMap.mp hx
  exact digs_bit (List.mem_reverse.mp h)
theorem app_bit {l1 l2 : List Int} (h1 : ∀ x ∈ l1, 0 ≤ x ∧ x ≤ (1 : Int)) (h2 : ∀ x ∈ l2, 0 ≤ x ∧ x ≤ (1 : Int)) : ∀ x ∈ l1 ++ l2, 0 ≤ x ∧ x ≤ 1 := fun x hx => (List.mem_append.mp hx).elim (h1 x) (h2 x)
theorem divmod {a q r P : Int} (h : a = q * P + r) (h0 : 0 ≤ r) (h1 : r < P) : a / P = q ∧ a % P = r := by
  have hP : 0 < P := by omega
  subst h
  rw [Int.add_comm, Int.add_mul_ediv_right _ _ (by omega), Int.ediv_eq_zero_of_lt h0 h1, Int.add_mul_emod_self_right, Int.emod_eq_of_lt h0 h1]
  exact ⟨by omega, rfl⟩
/-- the worth of a head and of a tail -/
theorem wo_cut {l : List Int} {k : Nat} (h : ∀ x ∈ l, 0 ≤ x ∧ x ≤ 1) : wo (l.take k) = wo l / 2 ^ (l.length - k) ∧ wo (l.drop k) = wo l % 2 ^ (l.length - k) := by
  have e := wo_append (l.take k) (l.drop k)
  rw [List.take_append_drop, List.length_drop] at e
  have hd := wo_in (l := l.drop k) fun x hx => h x (List.mem_of_mem_drop hx)
  rw [List.length_drop] at hd
  have := divmod e hd.1 hd.2
  exact ⟨this.1.symm, this.2.symm⟩
theorem wo_cutR {l : List Int} {k : Nat} (h : ∀ x ∈ l, 0 ≤ x ∧ x ≤ 1) (hk : k ≤ l.length) : wo (l.take k).reverse = wo l.reverse % 2 ^ k ∧ wo (l.drop k).reverse = wo l.reverse / 2 ^ k := by
  have e := wo_append (l.drop k).reverse (l.take k).reverse
  rw [← List.reverse_append, List.take_append_drop, List.length_reverse, List.length_take, Nat.min_eq_left hk] at e
  have hd := wo_in (l := (l.take k).reverse) fun x hx => h x (List.mem_of_mem_take (List.mem_reverse.mp hx))
  rw [List.length_reverse, List.length_take, Nat.min_eq_left hk] at hd
  have := divmod e hd.1 hd.2
  exact ⟨this.2.symm, this.1.symm⟩
def leV : List Int → Int
  | [] => 0
  | g :: r => g + 256 * leV r
theorem wo_flatR : ∀ {G : List Int}, (∀ k ∈ G, 0 ≤ k ∧ k < 256) → wo (G.flatMap (fun o => (digs o).reverse)).reverse = leV G
  | [], _ => rfl
  | g :: r, h => by
    have h1 := wo_flatR (G := r) fun k hk => h k (List.mem_cons_of_mem _ hk)
    have h2 := h g (List.mem_cons_self ..)
    rw [List.flatMap_cons, List.reverse_append, wo_append, h1, List.reverse_reverse, wo_digs h2.1 h2.2, digs_len, leV]
    omega
theorem leV_in : ∀ {G : List Int}, (∀ k ∈ G, 0 ≤ k ∧ k < 256) → 0 ≤ leV G ∧ leV G < 2 ^ (8 * G.length)
  | [], _ => by simp [leV]
  | g :: r, h => by
    have h1 := leV_in (G := r) fun k hk => h k (List.mem_cons_of_mem _ hk)
    have h2 := h g (List.mem_cons_self ..)
    rw [leV, List.length_cons, show 8 * (r.length + 1) = 8 * r.length + 8 by omega, Int.pow_add, show (2 : Int) ^ 8 = 256 by decide]
    omega
theorem le_go : ∀ (l : List Int) (j : Nat) (a : Int), 0 ≤ a → a < 2 ^ (8 * j) → (∀ k ∈ l, 0 ≤ k ∧ k < 256) → List.foldl (fun T p => bitOr T (p.fst * 2 ^ ((p.snd : Int) * 8).toNat)) a (l.zipIdx j) = a + leV l * 2 ^ (8 * j)
  | [], j, a, _, _, _ => by simp [leV]
  | k :: r, j, a, h0, h1, hk => by
    have hk1 := hk k (List.mem_cons_self ..)
    have e : ((j : Int) * 8).toNat = 8 * j := by omega
    have hP := pow_pos2 (8 * j)
    rw [List.zipIdx_cons, List.foldl_cons]
    dsimp only
    rw [e, bitOr_shift' hk1.1 h0 h1]
    have hb : k * 2 ^ (8 * j) + a < 2 ^ (8 * (j + 1)) := by
      rw [show 8 * (j + 1) = 8 * j + 8 by omega, Int.pow_add, show (2 : Int) ^ 8 = 256 by decide]
      have : k * 2 ^ (8 * j) ≤ 255 * 2 ^ (8 * j) := Int.mul_le_mul_of_nonneg_right (by omega) (by omega)
      omega
    have hb0 : 0 ≤ k * 2 ^ (8 * j) + a := by
      have := Int.mul_nonneg hk1.1 (Int.le_of_lt hP)
      omega
    rw [le_go r (j + 1) _ hb0 hb fun x hx => hk x (List.mem_cons_of_mem _ hx)]
    rw [leV, show 8 * (j + 1) = 8 * j + 8 by omega, Int.pow_add, show (2 : Int) ^ 8 = 256 by decide, Int.add_mul]
    generalize (2 : Int) ^ (8 * j) = P
    rw [Int.mul_comm P 256, ← Int.mul_assoc, Int.mul_comm (leV r) 256]
    omega
theorem leFold_eq {l : List Int} (hk : ∀ k ∈ l, 0 ≤ k ∧ k < 256) : List.foldl (fun T p => bitOr T (p.fst * 2 ^ ((p.snd : Int) * 8).toNat)) 0 l.zipIdx = leV l := by
  have := le_go l 0 0 (by decide) (by decide) hk
  simpa using this
theorem f256_in {G : List Int} (h : ∀ k ∈ G, 0 ≤ k ∧ k < 256) : 0 ≤ fold256 G ∧ fold256 G < 2 ^ (8 * G.length) := by
  have := wo_in (flat_bit (G := G))
  rw [wo_flat h, flat_len] at this
  exact this
theorem fdiv_pow (x : Int) (n : Nat) : x.fdiv (2 ^ n) = x / 2 ^ n := Int.fdiv_eq_ediv_of_nonneg _ (Int.le_of_lt (pow_pos2 n))
theorem bit_mask {x : Int} {n : Nat} (h : 0 ≤ x) : bitAnd x (1 * 2 ^ n - 1) = x % 2 ^ n := by rw [Int.one_mul]; exact bitAnd_mask h
theorem fmod8 (x : Int) : x.fmod 8 = x % 8 := Int.fmod_eq_emod_of_nonneg _ (by decide)
theorem fdiv8 (x : Int) : x.fdiv 8 = x / 8 := Int.fdiv_eq_ediv_of_nonneg _ (by decide)
/-- the high end, octets are read -/
theorem hi_more {ws G : List Int} {W : Int} {n : Nat} (hw : ∀ x ∈ ws, 0 ≤ x ∧ x ≤ 1) (hG : ∀ k ∈ G, 0 ≤ k ∧ k < 256) (hm : (ws.length : Int) < W) (hn : (n : Int) = (W - ws.length - 1).fdiv 8 + 1) (hl : G.length = n) :
    ((((ws ++ G.flatMap digs).drop W.toNat).length : Nat) : Int) = (-(W - ws.length)).fmod 8 ∧
    wo ((ws ++ G.flatMap digs).drop W.toNat) = bitAnd (fold256 G) (1 * 2 ^ ((-(W - ws.length)).fmod 8).toNat - 1) ∧
    wo ((ws ++ G.flatMap digs).take W.toNat) = bitOr ((fold256 G).fdiv (2 ^ ((-(W - ws.length)).fmod 8).toNat)) (wo ws * 2 ^ (W - ws.length).toNat) := by
  have hb := app_bit hw (flat_bit (G := G))
  have hc := wo_cut (k := W.toNat) hb
  have hf := f256_in hG
  have hwi := wo_in hw
  have hll : (ws ++ G.flatMap digs).length = ws.length + 8 * n := by rw [List.length_append, flat_len, hl]
  have hwe : wo (ws ++ G.flatMap digs) = wo ws * 2 ^ (8 * n) + fold256 G := by rw [wo_append, wo_flat hG, flat_len, hl]
  rw [fdiv8] at hn
  have hr : ((-(W - ws.length)).fmod 8).toNat = ws.length + 8 * n - W.toNat := by rw [fmod8]; omega
  have hr0 : 0 ≤ (-(W - ws.length)).fmod 8 := by rw [fmod8]; omega
  have hr8 : ws.length + 8 * n - W.toNat < 8 := by omega
  rw [hll] at hc
  refine ⟨?_, ?_, ?_⟩
  · rw [List.length_drop, hll]; omega
  · rw [hr, bit_mask hf.1, hc.2, hwe]
    obtain ⟨q, hq⟩ : ∃ q, 8 * n = q + (ws.length + 8 * n - W.toNat) := ⟨8 * n - (ws.length + 8 * n - W.toNat), by omega⟩
    generalize ws.length + 8 * n - W.toNat = r at hq ⊢
    rw [hq, Int.pow_add, ← Int.mul_assoc, Int.add_comm, Int.add_mul_emod_self_right]
  · rw [hr, hc.1, hwe, fdiv_pow]
    have h1 : (W - ws.length).toNat + (ws.length + 8 * n - W.toNat) = 8 * n := by omega
    generalize (W - ws.length).toNat = q at h1 ⊢
    generalize ws.length + 8 * n - W.toNat = r at h1 ⊢
    have hp := pow_pos2 r
    rw [← h1, Int.pow_add, ← Int.mul_assoc, Int.add_comm, Int.add_mul_ediv_right _ _ (by omega)]
    have hd0 : 0 ≤ fold256 G / 2 ^ r := Int.ediv_nonneg hf.1 (Int.le_of_lt hp)
    have hd1 : fold256 G / 2 ^ r < 2 ^ q := by
      rw [hl, ← h1, Int.pow_add] at hf
      exact Int.ediv_lt_of_lt_mul hp hf.2
    rw [bitOr_shift' hwi.1 hd0 hd1]
    omega
/-- the high end, none is read -/
theorem hi_less {ws : List Int} {W : Int} (hw : ∀ x ∈ ws, 0 ≤ x ∧ x ≤ 1) (h0 : 0 ≤ W) (hm : W ≤ (ws.length : Int)) (h8 : ws.length < 8) :
    (((ws.drop W.toNat).length : Nat) : Int) = (-(W - ws.length)).fmod 8 ∧
    wo (ws.drop W.toNat) = bitAnd (wo ws) (1 * 2 ^ ((-(W - ws.length)).fmod 8).toNat - 1) ∧
    wo (ws.take W.toNat) = (wo ws).fdiv (2 ^ (-(W - ws.length)).toNat) := by
  have hc := wo_cut (k := W.toNat) hw
  have hwi := wo_in hw
  have hr : ((-(W - ws.length)).fmod 8).toNat = ws.length - W.toNat := by rw [fmod8]; omega
  have hr2 : (-(W - ws.length)).toNat = ws.length - W.toNat := by omega
  refine ⟨?_, ?_, ?_⟩
  · rw [List.length_drop, fmod8]; omega
  · rw [hr, bit_mask hwi.1, hc.2]
  · rw [hr2, fdiv_pow, hc.1]
/-- the low end, octets are read -/
theorem lo_more {ws G : List Int} {W : Int} {n : Nat} (hw : ∀ x ∈ ws, 0 ≤ x ∧ x ≤ 1) (hG : ∀ k ∈ G, 0 ≤ k ∧ k < 256) (hm : (ws.length : Int) < W) (hn : (n : Int) = (W - ws.length - 1).fdiv 8 + 1) (hl : G.length = n) :
    ((((ws.reverse ++ G.flatMap (fun o => (digs o).reverse)).drop W.toNat).reverse.length : Nat) : Int) = (-(W - ws.length)).fmod 8 ∧
    wo ((ws.reverse ++ G.flatMap (fun o => (digs o).reverse)).drop W.toNat).reverse = (List.foldl (fun T p => bitOr T (p.fst * 2 ^ ((p.snd : Int) * 8).toNat)) 0 G.zipIdx).fdiv (2 ^ (W - ws.length).toNat) ∧
    wo ((ws.reverse ++ G.flatMap (fun o => (digs o).reverse)).take W.toNat).reverse = bitAnd (bitOr ((List.foldl (fun T p => bitOr T (p.fst * 2 ^ ((p.snd : Int) * 8).toNat)) 0 G.zipIdx) * 2 ^ ((ws.length : Int)).toNat) (wo ws)) (1 * 2 ^ W.toNat - 1) := by
  have hb := app_bit (l1 := ws.reverse) (fun x hx => hw x (List.mem_reverse.mp hx)) (flat_bitR (G := G))
  have hf := leV_in hG
  have hwi := wo_in hw
  have hll : (ws.reverse ++ G.flatMap (fun o => (digs o).reverse)).length = ws.length + 8 * n := by rw [List.length_append, flat_lenR, hl, List.length_reverse]
  have hwe : wo (ws.reverse ++ G.flatMap (fun o => (digs o).reverse)).reverse = leV G * 2 ^ ws.length + wo ws := by rw [List.reverse_append, wo_append, wo_flatR hG, List.reverse_reverse]
  rw [fdiv8] at hn
  have hc := wo_cutR (k := W.toNat) hb (by omega)
  rw [leFold_eq hG]
  refine ⟨?_, ?_, ?_⟩
  · rw [List.length_reverse, List.length_drop, hll, fmod8]; omega
  · rw [hc.2, hwe, fdiv_pow]
    have h1 : W.toNat = ws.length + (W - ws.length).toNat := by omega
    generalize (W - ws.length).toNat = q at h1 ⊢
    rw [h1, Int.pow_add, ← Int.ediv_ediv_of_nonneg (Int.le_of_lt (pow_pos2 _))]
    congr 1
    exact (divmod rfl hwi.1 hwi.2).1
  · rw [hc.1, hwe, Int.toNat_natCast, bitOr_shift hf.1 hwi.1 hwi.2, bit_mask]
    have := Int.mul_nonneg hf.1 (Int.le_of_lt (pow_pos2 ws.length))
    omega
/-- the low end, none is read -/
theorem lo_less {ws : List Int} {W : Int} (hw : ∀ x ∈ ws, 0 ≤ x ∧ x ≤ 1) (h0 : 0 ≤ W) (hm : W ≤ (ws.length : Int)) (h8 : ws.length < 8) :
    (((ws.reverse.drop W.toNat).reverse.length : Nat) : Int) = (-(W - ws.length)).fmod 8 ∧
    wo (ws.reverse.drop W.toNat).reverse = (wo ws).fdiv (2 ^ W.toNat) ∧
    wo (ws.reverse.take W.toNat).reverse = bitAnd (wo ws) (1 * 2 ^ W.toNat - 1) := by
  have hwi := wo_in hw
  have hc := wo_cutR (l := ws.reverse) (k := W.toNat) (fun x hx => hw x (List.mem_reverse.mp hx)) (by rw [List.length_reverse]; omega)
  rw [List.reverse_reverse] at hc
  refine ⟨?_, ?_, ?_⟩
  · rw [List.length_reverse, List.length_drop, List.length_reverse, fmod8]; omega
  · rw [fdiv_pow, hc.2]
  · rw [bit_mask hwi.1, hc.1]
end Mine
end
section
open PySem PySem.W PyProof.Rows PySem.Builtin

namespace Mine
def hexN (i : Int) : Nat := if i.toNat < 10 then 48 + i.toNat else 87 + i.toNat
/-- the law's own words for one octet, behind what stands already -/
def stepTxt (mk : Int) (t : Str) (o : Int) : Str :=
  if o = mk ∨ o = 92 then t ++ Str.ofString "\\" ++ Str.mk #[o.toNat]
  else if o = 9 then t ++ Str.ofString "\\t"
  else if o = 10 then t ++ Str.ofString "\\n"
  else if o = 13 then t ++ Str.ofString "\\r"
  else if o < 32 ∨ 126 < o then t ++ Str.ofString "\\x" ++ Str.mk #[hexN (o.fdiv 16)] ++ Str.mk #[hexN (o.fmod 16)]
  else t ++ Str.mk #[o.toNat]
def markOf (ns : List Int) : Int := if 39 ∈ ns ∧ 34 ∉ ns then 34 else 39
def shownTxt (ns : List Int) : Str := ns.foldl (stepTxt (markOf ns)) (Str.ofString "b" ++ Str.mk #[(markOf ns).toNat]) ++ Str.mk #[(markOf ns).toNat]
theorem u8_val {n : Int} (h : 0 ≤ n ∧ n < 256) : ((n.toNat.toUInt8).toNat : Int) = n := by
  rw [show n.toNat.toUInt8.toNat = n.toNat % 256 from UInt8.toNat_ofNat']
  omega
theorem u8_nat {n : Int} (h : 0 ≤ n ∧ n < 256) : (n.toNat.toUInt8).toNat = n.toNat := by
  rw [show n.toNat.toUInt8.toNat = n.toNat % 256 from UInt8.toNat_ofNat']
  omega
theorem u8_eq {n : Int} {k : Nat} (h : 0 ≤ n ∧ n < 256) (hk : k < 256) : n.toNat.toUInt8 = k.toUInt8 ↔ n = (k : Int) := by
  rw [← UInt8.toNat_inj, u8_nat h, show k.toUInt8.toNat = k % 256 from UInt8.toNat_ofNat']
  omega
theorem byteArr_has {ns : List Int} {k : Nat} (hb : ∀ n ∈ ns, 0 ≤ n ∧ n < 256) (hk : k < 256) : (byteArr ns).contains k.toUInt8 = decide ((k : Int) ∈ ns) := by
  rw [Bool.eq_iff_iff, Array.contains_iff_mem, decide_eq_true_iff]
  unfold byteArr
  rw [List.mem_toArray, List.mem_map]
  constructor
  · rintro ⟨n, hn, e⟩
    rw [← (u8_eq (hb n hn) hk).mp e]; exact hn
  · intro h
    exact ⟨_, h, (u8_eq (hb _ h) hk).mpr rfl⟩
theorem quote_eq {ns : List Int} (hb : ∀ n ∈ ns, 0 ≤ n ∧ n < 256) : (if (byteArr ns).contains 39 && !(byteArr ns).contains 34 then 34 else 39 : Nat) = (markOf ns).toNat := by
  have h1 := byteArr_has (k := 39) hb (by decide)
  have h2 := byteArr_has (k := 34) hb (by decide)
  rw [show (39 : UInt8) = Nat.toUInt8 39 from rfl, show (34 : UInt8) = Nat.toUInt8 34 from rfl, h1, h2]
  unfold markOf
  by_cases q1 : (39 : Int) ∈ ns <;> by_cases q2 : (34 : Int) ∈ ns <;> simp [q1, q2]
theorem cps_bs : (Str.ofString "\\").cps = #[92] := by decide +kernel
theorem cps_t : (Str.ofString "\\t").cps = #[92, 116] := by decide +kernel
theorem cps_n : (Str.ofString "\\n").cps = #[92, 110] := by decide +kernel
theorem cps_r : (Str.ofString "\\r").cps = #[92, 114] := by decide +kernel
theorem cps_x : (Str.ofString "\\x").cps = #[92, 120] := by decide +kernel
theorem cps_b : (Str.ofString "b").cps = #[98] := by decide +kernel
def shownOf (quote c : Nat) : Array Nat :=
    if c == quote || c == 92 then #[92, c]
    else if c == 9 then #[92, 116]
    else if c == 10 then #[92, 110]
    else if c == 13 then #[92, 114]
    else if c < 32 || c ≥ 127 then #[92, 120, (if c / 16 < 10 then 48 + c / 16 else 87 + c / 16), (if c % 16 < 10 then 48 + c % 16 else 87 + c % 16)]
    else #[c]
theorem step_cps {mk o : Int} (hm : 0 ≤ mk) (h : 0 ≤ o ∧ o < 256) (t : Str) : (stepTxt mk t o).cps = t.cps ++ shownOf mk.toNat o.toNat := by
  unfold stepTxt shownOf
  have e0 : (o.toNat == mk.toNat || o.toNat == 92) = decide (o = mk ∨ o = 92) := by
    rw [Bool.eq_iff_iff, Bool.or_eq_true, beq_iff_eq, beq_iff_eq, decide_eq_true_iff]; omega
  have e1 : (o.toNat == 9) = decide (o = 9) := by rw [Bool.eq_iff_iff, beq_iff_eq, decide_eq_true_iff]; omega
  have e2 : (o.toNat == 10) = decide (o = 10) := by rw [Bool.eq_iff_iff, beq_iff_eq, decide_eq_true_iff]; omega
  have e3 : (o.toNat == 13) = decide (o = 13) := by rw [Bool.eq_iff_iff, beq_iff_eq, decide_eq_true_iff]; omega
  have e4 : (decide (o.toNat < 32) || decide (o.toNat ≥ 127)) = decide (o < 32 ∨ 126 < o) := by
    rw [Bool.eq_iff_iff, Bool.or_eq_true, decide_eq_true_iff, decide_eq_true_iff, decide_eq_true_iff]; omega
  have e5 : o.toNat / 16 = (o.fdiv 16).toNat := by rw [Int.fdiv_eq_ediv_of_nonneg _ (by decide)]; omega
  have e6 : o.toNat % 16 = (o.fmod 16).toNat := by rw [Int.fmod_eq_emod_of_nonneg _ (by decide)]; omega
  rw [e0, e1, e2, e3, e4, e5, e6]
  simp only [decide_eq_true_eq]
  split
  · apply Array.toList_inj.mp; simp [Str.cps_append, cps_bs]
  · split
    · simp [Str.cps_append, cps_t]
    · split
      · simp [Str.cps_append, cps_n]
      · split
        · simp [Str.cps_append, cps_r]
        · split
          · simp [Str.cps_append, cps_x, hexN]
          · simp [Str.cps_append]
theorem fold_cps {mk : Int} (hm : 0 ≤ mk) : ∀ (ns : List Int), (∀ n ∈ ns, 0 ≤ n ∧ n < 256) → ∀ t : Str, (ns.map fun n => n.toNat.toUInt8).foldl (fun (acc : Array Nat) c => acc ++ shownOf mk.toNat c.toNat) t.cps = (ns.foldl (stepTxt mk) t).cps
  | [], _, _ => rfl
  | n :: r, h, t => by
    have h1 := h n (List.mem_cons_self ..)
    rw [List.map_cons, List.foldl_cons, List.foldl_cons, u8_nat h1, ← step_cps hm h1, fold_cps hm r (fun x hx => h x (List.mem_cons_of_mem _ hx))]
theorem literal_eq {ns : List Int} (hb : ∀ n ∈ ns, 0 ≤ n ∧ n < 256) : Bytes.literal (byteArr ns) = shownTxt ns := by
  have hm : 0 ≤ markOf ns := by unfold markOf; split <;> decide
  have e : Bytes.literal (byteArr ns) = ⟨((byteArr ns).foldl (fun acc c => acc ++ shownOf (if (byteArr ns).contains 39 && !(byteArr ns).contains 34 then 34 else 39) c.toNat) #[98, (if (byteArr ns).contains 39 && !(byteArr ns).contains 34 then 34 else 39)]).push (if (byteArr ns).contains 39 && !(byteArr ns).contains 34 then 34 else 39)⟩ := rfl
  rw [e, quote_eq hb]
  unfold shownTxt
  have f := fold_cps hm ns hb (Str.ofString "b" ++ Str.mk #[(markOf ns).toNat])
  rw [show (Str.ofString "b" ++ Str.mk #[(markOf ns).toNat]).cps = #[98, (markOf ns).toNat] by rw [Str.cps_append, cps_b]; rfl] at f
  have g : (byteArr ns).foldl (fun (acc : Array Nat) c => acc ++ shownOf (markOf ns).toNat c.toNat) #[98, (markOf ns).toNat] = (ns.foldl (stepTxt (markOf ns)) (Str.ofString "b" ++ Str.mk #[(markOf ns).toNat])).cps := by
    rw [← f]; unfold byteArr; rw [List.foldl_toArray]
  rw [g]
  congr 1
theorem step_len {mk o : Int} (t : Str) : (stepTxt mk t o).length ≤ t.length + 4 := by
  have a : (Str.ofString "\\").length = 1 := by decide +kernel
  have b : (Str.ofString "\\t").length = 2 := by decide +kernel
  have c : (Str.ofString "\\n").length = 2 := by decide +kernel
  have d : (Str.ofString "\\r").length = 2 := by decide +kernel
  have e : (Str.ofString "\\x").length = 2 := by decide +kernel
  have f : ∀ a : Nat, (Str.mk #[a]).length = 1 := fun _ => rfl
  unfold stepTxt
  repeat' split
  all_goals (simp only [Str.length_append, a, b, c, d, e, f]; omega)
theorem shown_len (ns : List Int) : (shownTxt ns).length ≤ 4 * ns.length + 3 := by
  have b : (Str.ofString "b").length = 1 := by decide +kernel
  have f : ∀ a : Nat, (Str.mk #[a]).length = 1 := fun _ => rfl
  have : ∀ (l : List Int) (t : Str), (l.foldl (stepTxt (markOf ns)) t).length ≤ t.length + 4 * l.length := by
    intro l
    induction l with
    | nil => intro t; simp
    | cons x r ih =>
      intro t
      rw [List.foldl_cons, List.length_cons]
      have h1 := ih (stepTxt (markOf ns) t x)
      have h2 := step_len (mk := markOf ns) (o := x) t
      omega
  unfold shownTxt
  have h := this ns (Str.ofString "b" ++ Str.mk #[(markOf ns).toNat])
  rw [Str.length_append, f]
  rw [Str.length_append, b, f] at h
  omega
end Mine
end
section
open PySem PySem.W PyProof.Rows PySem.SeqAt

namespace Mine
open AutoSeq1 MeetsSeq MeetsSeq2 MeetsSeq3 SeqRoads2 in
theorem eqGives_bytes (x y : Array UInt8) (t u : Tok) : EqGives (.bytes x t) (.bytes y u) (x.toList == y.toList) := by
  intro prog w A E s Q h
  unfold eqBool
  refine wpAny_holding ?_
  refine wpAny_ite_split (fun hab => ?_) (fun hab => ?_)
  · have e : x = y := by have := eq_of_beq hab; injection this
    subst e
    exact wpAny_bind (wpAny_rule (wpAny_pure (by simpa using h)))
  · exact wpAny_bind (richCompare_gives (typeIs_bytes s x t) (typeIs_bytes s y u) FB.slot_bytes_eq FB.entry_bytes_eq (FB.args_bytes_eq_2 _ _) (gives_bytes_eq x y t u) (by simp [Made.takes]) (wpAny_truthy_bool h))
/-- two values of like contents -/
inductive SameV : Value → Value → Prop
  | str {a b : Str} (t u : Tok) (h : a = b) : SameV (.str a t) (.str b u)
  | int {a b : Int} (t u : Tok) (h : a = b) : SameV (.int a t) (.int b u)
  | bytes {a b : Array UInt8} (t u : Tok) (h : a = b) : SameV (.bytes a t) (.bytes b u)
theorem SameV.at {A : Around} {s : Shared} {v u : Value} (h : SameV v u) : EqAt A s v u true := by
  cases h with
  | str t u h => subst h; have := EqAt.str_str (A := A) (s := s) ‹_› t ‹_› u; simpa using this
  | int t u h => subst h; have := EqAt.int_int (A := A) (s := s) ‹_› t ‹_› u; simpa using this
  | bytes t u h => subst h; have := (eqGives_bytes ‹_› ‹_› t u).at A s; simpa using this
inductive SameVs : List Value → List Value → Prop
  | nil : SameVs [] []
  | cons {v u vs us} : SameV v u → SameVs vs us → SameVs (v :: vs) (u :: us)
theorem SameVs.len : ∀ {vs us : List Value}, SameVs vs us → vs.length = us.length
  | _, _, .nil => rfl
  | _, _, .cons _ h => congrArg (· + 1) h.len
theorem SameVs.get : ∀ {vs us : List Value} (_ : SameVs vs us) (j : Nat) (h1 : j < vs.length) (h2 : j < us.length), SameV vs[j] us[j]
  | _, _, .cons h _, 0, _, _ => h
  | _, _, .cons _ h, j + 1, h1, h2 => h.get j (by simpa using h1) (by simpa using h2)
section
variable {prog : Program} {w : World} {A : Around} {E : Value → Shared → Prop} {s : Shared} {a b L : Addr} {c c2 : Nat} {h₀ : Heap} {xs ys : List Value} {news : List (Addr × Obj)} {Q : Value → Shared → Prop}
theorem ne_same (N : News h₀ L s.heap news) (ha : (a, PySem.W.listOf xs.toArray c) ∈ news) (hb : (b, PySem.W.listOf ys.toArray c2) ∈ news) (hs : SameVs xs ys) (hu : A.units < cLine) (h : Q (.bool false) s) :
    wpAny (model prog w) A (compareOp .NotEq (.ref a) (.ref b)) Q E s := by
  have hl : s.heap.IsList a xs.toArray := ⟨_, (N _ ha).1, rfl, c, rfl⟩
  have hl2 : s.heap.IsList b ys.toArray := ⟨_, (N _ hb).1, rfl, c2, rfl⟩
  refine RcNeAt.lists (e := fun _ => true) hl hl2 (by simpa using hs.len) hu (fun j h1 h2 => ?_) prog w E Q ?_
  · simpa using (hs.get j (by simpa using h1) (by simpa using h2)).at
  · rw [show (!(List.range xs.toArray.size).all fun _ => true) = false by rw [List.all_eq_true.mpr fun _ _ => rfl]; rfl]; exact h
end
end Mine
end
section
open PySem PySem.W PySem.Calls PyProof.Rows PySem.Spec
set_option maxRecDepth 100000
set_option maxHeartbeats 8000000
namespace Mine
theorem resetBase {M : Model} {A : Around} {env : Env} {x : Str} {v : Value} {Q : Unit → Shared → Prop} {E : Value → Shared → Prop} {s : Shared} (h : wpAny M A (storeName env x v) Q E s) : wpAny M A (storeName env x v) Q E s := by
  w_top off
  k_with_none
  first
    | (walk1; fail)
    | exact h
theorem fill : (fun (_ : OpenLaw) (_ : Params → Frag) => True) PySem.Challenge.rw_bq5014_02 Mine.K := by
  k_fill
  trivial
/-- the entry of a written attribute -/
abbrev ent (w : World) (x : Str) (k : Tok) (v : Value) : DictEntry := ⟨PyData.keyHash w.params x, .str x k, v⟩
/-- a stream's fields -/
structure Sd where
  io : Addr
  cl : Addr
  k1 : Tok
  k2 : Tok
  k3 : Tok
  k4 : Tok
  k5 : Tok
  k6 : Tok
  k7 : Tok
  k8 : Tok
  size : Int
  ts : Tok
abbrev sdict (w : World) (σ : Sd) (bl : Int) (t1 : Tok) (bits : Int) (t2 : Tok) : Obj :=
  dictOf [ent w (Str.ofString "_io") σ.k1 (.ref σ.io), ent w (Str.ofString "bits_left") σ.k2 (.int bl t1), ent w (Str.ofString "bits") σ.k3 (.int bits t2), ent w (Str.ofString "bits_le") σ.k4 (.bool false), ent w (Str.ofString "bits_write_mode") σ.k5 (.bool false),
    ent w (Str.ofString "write_back_handler") σ.k6 .none, ent w (Str.ofString "child_streams") σ.k7 (.ref σ.cl), ent w (Str.ofString "_size") σ.k8 (.int σ.size σ.ts)] 8
/-- a BytesIO's fields -/
structure Bd where
  ba : Addr
  k1 : Tok
  k2 : Tok
abbrev bdict (w : World) (β : Bd) (pos : Int) (t : Tok) : Obj :=
  dictOf [ent w (Str.ofString "_BytesIO__buf") β.k1 (.ref β.ba), ent w (Str.ofString "_BytesIO__pos") β.k2 (.int pos t)] 2

inductive Pick (p : Addr × Obj) : List (Addr × Obj) → List (Addr × Obj) → Prop
  | head {r} : Pick p (p :: r) r
  | tail {q l r} : Pick p l r → Pick p (q :: l) (q :: r)
theorem Pick.mem {p : Addr × Obj} : ∀ {l r : List (Addr × Obj)}, Pick p l r → ∀ q ∈ p :: r, q ∈ l
  | _, _, .head, _, h => h
  | _, _, .tail x, q, h => by
    rcases List.mem_cons.mp h with rfl | h
    · exact .tail _ (x.mem _ (.head _))
    · rcases List.mem_cons.mp h with rfl | h
      · exact .head _
      · exact .tail _ (x.mem _ (.tail _ h))
theorem news_sub {h₀ h : Heap} {L : Addr} {l r : List (Addr × Obj)} (N : News h₀ L h l) (hs : ∀ p ∈ r, p ∈ l) : News h₀ L h r := fun p hp => N p (hs p hp)
theorem Pick.two {p q : Addr × Obj} {l l1 r : List (Addr × Obj)} (P1 : Pick p l l1) (P2 : Pick q l1 r) : ∀ x ∈ p :: q :: r, x ∈ l := fun x hx => by
  rcases List.mem_cons.mp hx with rfl | hx
  · exact P1.mem _ (.head _)
  · exact P1.mem _ (.tail _ (P2.mem _ hx))
theorem Pick.cons {p : Addr × Obj} {l l1 r : List (Addr × Obj)} (P1 : Pick p l l1) (h : ∀ x ∈ r, x ∈ l1) : ∀ x ∈ p :: r, x ∈ l := fun x hx => by
  rcases List.mem_cons.mp hx with rfl | hx
  · exact P1.mem _ (.head _)
  · exact P1.mem _ (.tail _ (h _ hx))
theorem sub_nil {m : List (Addr × Obj)} : ∀ p ∈ ([] : List (Addr × Obj)), p ∈ m := fun _ h => nomatch h
theorem sub_cons {a : Addr × Obj} {l m : List (Addr × Obj)} (h : a ∈ m) (hs : ∀ p ∈ l, p ∈ m) : ∀ p ∈ a :: l, p ∈ m := fun p hp => by
  rcases List.mem_cons.mp hp with rfl | hp
  · exact h
  · exact hs _ hp
theorem sub_self {l : List (Addr × Obj)} : ∀ p ∈ l, p ∈ l := fun _ h => h
theorem sub_up {a : Addr × Obj} {l m : List (Addr × Obj)} (hs : ∀ p ∈ l, p ∈ m) : ∀ p ∈ l, p ∈ a :: m := fun p hp => .tail _ (hs p hp)
/-- what BytesIO.read(n) hands back, and where it stands behind it -/
def rdB (b : Array UInt8) (pos n : Nat) : Array UInt8 := ((b.toList.drop pos).take n).toArray
def rdP (z pos n : Nat) : Nat := if z ≤ pos then pos else min (pos + n) z
theorem rdB_nil {b : Array UInt8} {pos n : Nat} (h : b.size ≤ pos) : rdB b pos n = #[] := by
  unfold rdB
  rw [List.drop_eq_nil_of_le (by simpa using h), List.take_nil]
theorem rdB_mid {b : Array UInt8} {pos n : Nat} (h : pos + n ≤ b.size) : KBy.picked b (some ((pos : Nat) : Int)) (some ((pos : Int) + (n : Int))) = rdB b pos n := by
  rw [KBc.picked_eq]
  unfold rdB
  simp only [Option.elim]
  rw [show ((pos : Int) + (n : Int)) = ((pos + n : Nat) : Int) by omega, clipAt_nat, clipAt_nat, Nat.min_eq_left (by omega : pos ≤ b.size), Nat.min_eq_left h, Nat.add_sub_cancel_left]
theorem rdB_end {b : Array UInt8} {pos n : Nat} (h0 : pos ≤ b.size) (h : b.size ≤ pos + n) : KBy.picked b (some ((pos : Nat) : Int)) (some ((b.size : Nat) : Int)) = rdB b pos n := by
  rw [KBc.picked_eq]
  unfold rdB
  simp only [Option.elim]
  rw [clipAt_nat, clipAt_nat, Nat.min_eq_left h0, Nat.min_self]
  congr 1
  rw [List.take_of_length_le (by simp), List.take_of_length_le (by simp; omega)]
/-- the stream's objects stand apart -/
structure Ap (y e x d ba : Addr) (rest : List (Addr × Obj)) : Prop where
  ye : y ≠ e
  yd : y ≠ d
  xe : x ≠ e
  xd : x ≠ d
  be : ba ≠ e
  bd : ba ≠ d
  ed : e ≠ d
  re : ∀ p ∈ rest, p.1 ≠ e
  rd : ∀ p ∈ rest, p.1 ≠ d
theorem rdB_size {b : Array UInt8} {pos n : Nat} : (rdB b pos n).size = min n (b.size - pos) := by
  simp [rdB]
theorem rdB_le {b : Array UInt8} {pos n : Nat} : (rdB b pos n).size ≤ n := by rw [rdB_size]; omega
theorem rdB_all {b : Array UInt8} : rdB b 0 b.size = b := by
  unfold rdB
  rw [List.drop_zero, List.take_of_length_le (by simp), Array.toArray_toList]
theorem fold_in : ∀ {l : List Int} {a : Int} {j : Nat}, (∀ k ∈ l, 0 ≤ k ∧ k < 256) → 0 ≤ a → a < 256 ^ j → 0 ≤ l.foldl (fun a k => a * 256 + k) a ∧ l.foldl (fun a k => a * 256 + k) a < 256 ^ (j + l.length)
  | [], a, j, _, h0, h1 => ⟨h0, by simpa using h1⟩
  | k :: r, a, j, h, h0, h1 => by
    have hk := h k (List.mem_cons_self ..)
    have := fold_in (l := r) (a := a * 256 + k) (j := j + 1) (fun x hx => h x (List.mem_cons_of_mem _ hx)) (by omega) (by rw [Int.pow_succ]; omega)
    rw [List.foldl_cons, List.length_cons, show j + (r.length + 1) = j + 1 + r.length by omega]
    exact this
theorem fold_small {ks pre post : List Int} {k x : Int} (e : ks = pre ++ k :: post) (hl : ks.length ≤ 7) (hin : ∀ k ∈ ks, 0 ≤ k ∧ k < 256) (hf : x = pre.foldl (fun a k => a * 256 + k) 0) : x.natAbs < 2 ^ 64 := by
  have h := fold_in (l := pre) (a := 0) (j := 0) (fun q hq => hin q (by rw [e]; exact List.mem_append_left _ hq)) (by decide) (by decide)
  have hp : pre.length ≤ 6 := by
    have := congrArg List.length e
    rw [List.length_append, List.length_cons] at this
    omega
  rw [← hf, Nat.zero_add] at h
  have h9 : pre.length = 0 ∨ pre.length = 1 ∨ pre.length = 2 ∨ pre.length = 3 ∨ pre.length = 4 ∨ pre.length = 5 ∨ pre.length = 6 := by omega
  rcases h9 with h9 | h9 | h9 | h9 | h9 | h9 | h9 <;> (rw [h9] at h; omega)
theorem enum_le {ks : List Int} {i : Nat} {k : Int} (hi : ks[i]? = some k) (hl : ks.length ≤ 7) : (i : Int) * 8 ≤ 1000000 := by
  have := (List.getElem?_eq_some_iff.mp hi).1
  omega
theorem enum_small {ks : List Int} {i : Nat} {k : Int} (hi : ks[i]? = some k) (hin : ∀ k ∈ ks, 0 ≤ k ∧ k < 256) : k.natAbs < 2 ^ 64 := by
  have := hin k (List.mem_of_getElem? hi)
  omega
abbrev leFold (ks : List Int) : Int := List.foldl (fun T p => PySem.Builtin.bitOr T (p.fst * 2 ^ ((p.snd : Int) * 8).toNat)) 0 ks.zipIdx
end Mine
end
section
open PySem PySem.W PySem.Calls PyProof.Rows PySem.Spec
set_option maxRecDepth 100000
set_option maxHeartbeats 8000000
namespace Mine
theorem resetMk2 {M : Model} {A : Around} {env : Env} {x : Str} {v : Value} {Q : Unit → Shared → Prop} {E : Value → Shared → Prop} {s : Shared} (h : wpAny M A (storeName env x v) Q E s) : wpAny M A (storeName env x v) Q E s := by
  w_top off
  k_with_none
  first
    | (walk1; fail)
    | exact h
local macro_rules | `(tactic| k_upd) => `(tactic| first | exact Pick.head | (refine' Pick.tail ?pp; (case pp => k_upd)))
local macro_rules | `(tactic| k_all) => `(tactic| assumption)
local macro_rules | `(tactic| k_room) => `(tactic| ktr_room)
local macro_rules | `(tactic| walk_at "call type:type") => `(tactic| refine call_type_of (PySem.W.typeIs_bytes _ _ _) (by decide +kernel) ?_)
local macro_rules | `(tactic| walk_at "call builtin:len") => `(tactic| (k_here; (with_reducible show wpAny _ _ (call (Value.builtin "len") [Value.ref _]) _ _ _); k_dflt (refine' len_baN ?N ?m ?z ?_; (case N => k_asm); (case m => k_mem); (case z => (first | assumption | exact Nat.le_trans (KBc.size_picked_le _ _ _) (by assumption))); k_whole); intro _ _))
local macro_rules | `(tactic| walk_at "call type:bytes") => `(tactic| (k_here; (with_reducible show wpAny _ _ (call (Value.type "bytes") [Value.ref _]) _ _ _); k_dflt (refine' bytes_baN ?N ?m ?z ?_; (case N => k_asm); (case m => k_mem); (case z => (first | assumption | exact Nat.le_trans (KBc.size_picked_le _ _ _) (by assumption))); k_whole); intro _ _))
local macro_rules | `(tactic| walk_at "subscriptTail") => `(tactic| (k_here; (with_reducible show wpAny _ _ (subscriptTail _ (Expr.Slice _ _ none _) (Value.ref _) (Value.ref _)) _ _ _); (with_reducible rename Fr _ _ _ _ => F'); (with_reducible rename News _ _ _ _ => N'); (refine cut_baN (s := ⟨_, _, _, _, _⟩) F' N' (by k_mem) (by constructor) (by constructor) (by (first | assumption | exact Nat.le_trans (KBc.size_picked_le _ _ _) (by assumption))) ?_); intro _ _ _ _ _))
local macro_rules | `(tactic| walk_at "call builtin:len") => `(tactic| (k_here; (with_reducible show wpAny _ _ (call (Value.builtin "len") [Value.bytes (rdB _ _ _) _]) _ _ _); refine len_bytes (Nat.le_trans rdB_le (by omega)) ?_))
local macro_rules | `(tactic| walk_at "call builtin:_struct.unpack") => `(tactic| (k_here; k_dflt (refine' unpackBN ?F ?N ?hb ?_; (case F => k_asm); (case N => k_asm); (case hb => assumption); k_whole); intro _ _ _ _ F' N' l1; (try k_lt l1)))
local macro_rules | `(tactic| walk_at "call type:enumerate") => `(tactic| (k_here; (with_reducible show wpAny _ _ (call (Value.type _) [Value.bytes _ _]) _ _ _); k_dflt (refine' call_enumB rfl ?hk ?F ?N ?_; (case hk => assumption); (case F => k_asm); (case N => k_asm); k_whole); intro _ _ F' N' S'))
local macro_rules | `(tactic| walk_at "pyReprObj bytes") => `(tactic| (k_here; (refine repr_bytes (by first | assumption | exact Nat.le_trans rdB_le (by omega)) (by first | assumption | exact literal_le (by first | omega | exact Nat.le_trans rdB_le (by omega))) ?_)))
section
variable {prog : Program} {w : World} {A : Around} {R : Result → Shared → Prop} {h : Heap} {g : Array GenState} {d : Drawn} {t : Nat} {os : OsState}
theorem new_own (X : (K w.params).In h)
    (hq : R (.ok (.ret (.ref (h.objs.size + 1)))) ⟨(h.push emptyDict).push (instObj 350 h.objs.size), g, d, t, os⟩) :
    codeAny (model prog w) A (.call (.builtin "object.__new__") ⟨[.ref 350], []⟩) R ⟨h, g, d, t, os⟩ := by
  have F := PySem.F.objNew
  refine codeAny_call_builtin_code (Code.quiet_builtin _ F.quiet) ?_
  have here : Looks (model prog w) h (Bind.madeHere "object.__new__" (.ref 350)) () := Looks.of_peek X (pk_here _ _)
  have typ : Looks (model prog w) h (isType (.ref 350)) true := Looks.of_peek X (pk_type _ _)
  obtain ⟨oc, od, cd, sl, ho, c1, c2⟩ := pk_obj w.params
  have hC := X _ _ ho
  have cls : Looks (model prog w) h (classData 350) cd := (Looks.ld (part := none) hC).andThen .now
  refine Looks.at (Looks.of_peek X (pk_chk _ _)) ?_
  refine codeAny_builtin F.entry ?_
  unfold Builtin.«object.__new__»
  repeat (first | simp only [c1, Bool.false_eq_true, if_false, Bool.not_true] | lk)
  refine nd_load (Heap.get?_push_of_some _ (Heap.get?_push_of_some _ hC)) ?_
  repeat (first | simp only [c2, Bool.false_eq_true, if_false] | lk)
  show R _ _
  rw [Heap.size_push]
  exact hq
end
section
variable {w : World} {p : Program} {loose : List Str} {mean : ExcName → Option Value} {mg mb : Str → Option Value} {dp un : Nat} {gd : Option (List Code)} {cn : Str} {cs : Scope} {a : Addr} {ccd : Value} {cl : List (Str × Addr)} {outer : List Env} {A₀ : Around} {base h₀ : Heap} {L : Addr} {m : Str → Option Value} {s : Shared} {Q E : Value → Shared → Prop}
variable (B : Below A₀ base outer h₀) (F : Fr h₀ L s.heap m) (X : (K w.params).In h₀) (T : Top p loose mean mg mb h₀) (hk : cs.kind = .function)
include B F X T hk
theorem new90 {v : Value} {l : List (Addr × Obj)} (hd : dp + 4 < recursionLimit) (hu : un + 40 < cLine)
    (N : News h₀ L s.heap l)
    (ret : ∀ x dx h' tk, Fr h₀ L h' m → News h₀ L h' ((x, instObj 350 dx) :: (dx, emptyDict) :: l) → (∀ p ∈ l, p.1 < dx) → dx < x → Q (.ref x) { s with heap := h', toks := tk }) :
    wpAny (model prog w) (ktrTop dp un gd cn cs L a ccd cl outer) (call (.ref 90) [.ref 350, v]) Q E s := by
  refine wpAny_call ?_
  refine' kpc_both ?k1 ?k2 ?k3 ?k4 ?k5 ?kA ?kF ?kK ?k6 ?k7 ?k8 ?kV ?kX ?kQ ?kM ?kN ?kD ?kR ?kP ?kS ?kT ?kB ?_ ?c2 ?c3 ?c4 ?c5
  case kA => exact rfl
  case kF => exact rfl
  case kK => assumption
  case k1 => k_asm
  case k2 => k_asm
  case k3 => k_asm
  case k4 => k_asm
  case k5 => k_asm
  case k6 => k_dflt k_is
  case k7 => k_dflt k_is
  case k8 => ktr_room
  case kV => kp_lit
  case kX => kp_lit
  case kQ => exact rfl
  case kM => exact rfl
  case kN => exact rfl
  case kD => kp_flats
  case kR => exact rfl
  case kP => exact rfl
  case kS => exact fun _ => rfl
  case kT => exact fun _ _ => rfl
  case kB => exact fun _ _ => locs rfl
  case c5 => decide
  case c2 => exact rfl
  case c3 => exact rfl
  case c4 => exact rfl
  k_whole
  intro C' D' o' g' L' h' tk' l1 l2 lo' hs' fs' FG' F' N' B' X' T'
  (try dsimp only)
  k_fold
  k_steps
  refine wpAny_call (new_own (X'.keeps F'.keep) ?_)
  have N2 := (N'.push F' emptyDict).push (F'.push _) (instObj 350 h'.objs.size)
  rw [Heap.size_push] at N2
  refine leaveK_ ((F'.push _).push _) N2 fun F3 N3 => ret _ _ _ _ F3 (news_sub N3 ?_) (fun p hp => Heap.lt_size (N' p (.tail _ (.tail _ hp))).1) (Nat.lt_succ_self _)
  intro p hp
  rcases List.mem_cons.mp hp with rfl | hp
  · exact .head _
  rcases List.mem_cons.mp hp with rfl | hp
  · exact .tail _ (.head _)
  exact .tail _ (.tail _ (.tail _ (.tail _ hp)))
theorem init137 {x d : Addr} {b : Array UInt8} {t : Tok} {l : List (Addr × Obj)} {R : Result → Shared → Prop} (hd : dp + 4 < recursionLimit) (hu : un + 40 < cLine) (hz : b.size ≤ sizeLine)
    (N : News h₀ L s.heap ((x, instObj 350 d) :: (d, dictOf [] 0) :: l)) (n1 : x ≠ d) (hl : ∀ p ∈ l, p.1 ≠ d)
    (ret : ∀ (β : Bd) h' tk t', Fr h₀ L h' m → News h₀ L h' ((x, instObj 350 d) :: (d, bdict w β 0 t') :: (β.ba, baObj b) :: l) → β.ba ≠ d → R (.ok (.ret .none)) { s with heap := h', toks := tk }) :
    codeC (model prog w) (ktrTop dp un gd cn cs L a ccd cl outer) (.call (.ref 137) ⟨[.ref x, .bytes b t], []⟩) R s := by
  refine' codeC_def (binds := [(Str.ofString "self", Value.ref x), (Str.ofString "initial_bytes", Value.bytes b t)]) ?k1 ?k2 ?k3 ?k4 ?k5 ?kA ?kF ?kK ?k6 ?k7 ?k8 ?k9 ?kB ?_ ?c2 ?c3 ?c4 ?c5
  case kA => exact rfl
  case kF => exact rfl
  case kK => assumption
  case k1 => k_asm
  case k2 => k_asm
  case k3 => k_asm
  case k4 => k_asm
  case k5 => k_asm
  case k6 => k_dflt k_is
  case k7 => k_dflt k_is
  case k8 => ktr_room
  case k9 => first | exact BindsTo.of_eq rfl | exact binds_K (by k_in) rfl (by k_is) rfl rfl rfl
  case c5 => decide
  case kB => exact locs rfl
  case c2 => exact rfl
  case c3 => exact rfl
  case c4 => exact rfl
  intro g' L' h' FG' F' N' B' X' T'
  (try dsimp only)
  refine wpC_execs_consA ?_
  k_steps
  dsimp only
  refine wpC_execs_cons (wpC_Assign_Attribute (wpC_IfExp ?_))
  k_steps
  refine wpC_Call_Name ?_
  k_steps
  refine wpC_callWith1 (wpC_of_any ?_)
  k_steps
  refine keeper_val (f := .type "bytearray") (fun a h => nomatch h) ?_
  refine call_baN (by k_asm) (by k_asm) hz ?_
  intro y h2 F2 N2 l2
  k_lt l2
  k_steps
  dsimp only
  refine wpC_of_any ?_
  k_steps
  have hyd : y ≠ d := by k_ne
  exact ret ⟨y, _, _⟩ _ _ _ (by k_asm) (news_sub (by k_asm) (by ((repeat refine sub_cons (by k_mem) ?_); (repeat first | exact sub_self | exact sub_nil | refine sub_up ?_)))) hyd
theorem make_bio {b : Array UInt8} {t : Tok} {l : List (Addr × Obj)} {R : Result → Shared → Prop} (hd : dp + 8 < recursionLimit) (hu : un + 80 < cLine) (hz : b.size ≤ sizeLine)
    (N : News h₀ L s.heap l)
    (ret : ∀ (x d : Addr) (β : Bd) h' tk t', Fr h₀ L h' m → News h₀ L h' ((x, instObj 350 d) :: (d, bdict w β 0 t') :: (β.ba, baObj b) :: l) → (∀ p ∈ l, p.1 < d) → d < x → β.ba ≠ d → R (.ok (.ret (.ref x))) { s with heap := h', toks := tk }) :
    codeC (model prog w) (ktrTop dp un gd cn cs L a ccd cl outer) (.call (.ref 350) ⟨[.bytes b t], []⟩) R s := by
  obtain ⟨oc, od, cd, sl, ho, c1, c2⟩ := pk_obj w.params
  have XK := X.keeps F.keep
  have hC := XK _ _ ho
  refine codeC_of_tree ?_ rfl
  show wpC _ _ (callAny (.ref 350) _) _ _ _
  simp only [callAny]
  refine wpC_bindA (wpAny_load hC ?_)
  show wpC _ _ (callAny.viaDunder (.ref 350) _) _ _ _
  unfold callAny.viaDunder
  refine wpC_bindA ((Looks.of_peek XK (pk_call _ _)).here ?_)
  dsimp only
  rw [tc_bind]
  refine wpC_bind (wpC_pure (wpC_bind (wpC_pure ?_)))
  refine wpC_pure (a := PySem.Fin.again (.call (.builtin "type.__call__") ⟨[.ref 350, .bytes b t], []⟩)) (And.intro rfl ?_)
  refine codeC_call_builtin_at (Code.quiet_builtin _ (by decide +kernel)) entry_typeCall ((Looks.of_peek XK (pk_chkCall _ _ _)).here ?_)
  show wpC _ (ktrTop (dp + 1) (un + 1) gd cn cs L a ccd cl outer) _ _ _ _
  unfold Builtin.«type.__call__»
  dsimp only
  refine wpC_ite_false rfl ?_
  refine wpC_bindA ((Looks.of_peek XK (pk_mro _ _)).here ?_)
  refine wpC_ite_false rfl ?_
  refine wpC_bindA ((Looks.of_peek XK (pk_made _ _)).here ?_)
  dsimp only
  refine wpC_bindA ?_
  refine cls_sm (K := K w.params) (mc := .type "type") (p := 94) (f := .ref 90) (rest := []) F X (pk_n1 _) (pk_n2 _) (pk_n3 _) (pk_n4 _) rfl ?_
  refine wpC_bindA (wpAny_holding ?_)
  refine new90 (s := { s with toks := s.toks + 1 }) (dp := dp + 1) (un := un + 1) B F X T hk (by omega) (by omega) N ?_
  intro x d h2 tk2 F2 N2 l2 hxd
  have X2 : (K w.params).In h2 := X.keeps F2.keep
  have tx : Looks (model prog w) h2 (typeOf (.ref x)) (.ref 350) := (Looks.ld (N2 _ (.head _)).1).andThen .now
  refine wpC_bindA ?_
  show wpAny _ _ (isInstance (.ref x) (.ref 350)) _ _ _
  have i1 : Looks (model prog w) h2 (isInstance (.ref x) (.ref 350)) true := tx.andThen (Looks.of_peek X2 (pk_chk2 w.params prog))
  refine i1.here ?_
  refine wpC_ite_false rfl ?_
  refine wpC_bind (wpC_holding ?_)
  have i2 : Looks (model prog w) h2 (specialOf (.ref x) (Str.ofString "__init__")) (some (.ref 137)) := tx.andThen (Looks.of_peek X2 (pk_init w.params prog))
  unfold callSpecial?
  refine wpC_bindA (i2.here ?_)
  dsimp only
  refine wpC_holding (wpC_bindA ((bind_fn X2 (.ref x) (pk_fn137 _)).here ?_))
  dsimp only
  refine wpC_bind (wpC_call ?_)
  have hdx : x ≠ d := Ne.symm (Nat.ne_of_lt hxd)
  refine init137 (s := { s with heap := h2, toks := tk2 }) (dp := dp + 1) (un := un + 1) B F2 X T hk (by omega) (by omega) hz N2 hdx (fun p hp => Nat.ne_of_lt (l2 p hp)) ?_
  intro β h3 tk3 t3 F3 N3 hbd
  exact wpC_pure (wpC_ite_false rfl (wpC_pure (ret x d β h3 tk3 t3 F3 N3 l2 hxd hbd)))
end
end Mine
end
section
open PySem PySem.W PySem.Calls PyProof.Rows PySem.Spec
set_option maxRecDepth 100000
set_option maxHeartbeats 8000000
namespace Mine
theorem resetBio {M : Model} {A : Around} {env : Env} {x : Str} {v : Value} {Q : Unit → Shared → Prop} {E : Value → Shared → Prop} {s : Shared} (h : wpAny M A (storeName env x v) Q E s) : wpAny M A (storeName env x v) Q E s := by
  w_top off
  k_with_none
  first
    | (walk1; fail)
    | exact h
local macro_rules | `(tactic| k_upd) => `(tactic| first | exact Pick.head | (refine' Pick.tail ?pp; (case pp => k_upd)))
local macro_rules | `(tactic| k_all) => `(tactic| assumption)
local macro_rules | `(tactic| k_room) => `(tactic| ktr_room)
local macro_rules | `(tactic| walk_at "call type:type") => `(tactic| refine call_type_of (PySem.W.typeIs_bytes _ _ _) (by decide +kernel) ?_)
local macro_rules | `(tactic| walk_at "call builtin:len") => `(tactic| (k_here; (with_reducible show wpAny _ _ (call (Value.builtin "len") [Value.ref _]) _ _ _); k_dflt (refine' len_baN ?N ?m ?z ?_; (case N => k_asm); (case m => k_mem); (case z => (first | assumption | exact Nat.le_trans (KBc.size_picked_le _ _ _) (by assumption))); k_whole); intro _ _))
local macro_rules | `(tactic| walk_at "call type:bytes") => `(tactic| (k_here; (with_reducible show wpAny _ _ (call (Value.type "bytes") [Value.ref _]) _ _ _); k_dflt (refine' bytes_baN ?N ?m ?z ?_; (case N => k_asm); (case m => k_mem); (case z => (first | assumption | exact Nat.le_trans (KBc.size_picked_le _ _ _) (by assumption))); k_whole); intro _ _))
local macro_rules | `(tactic| walk_at "subscriptTail") => `(tactic| (k_here; (with_reducible show wpAny _ _ (subscriptTail _ (Expr.Slice _ _ none _) (Value.ref _) (Value.ref _)) _ _ _); (with_reducible rename Fr _ _ _ _ => F'); (with_reducible rename News _ _ _ _ => N'); (refine cut_baN (s := ⟨_, _, _, _, _⟩) F' N' (by k_mem) (by constructor) (by constructor) (by (first | assumption | exact Nat.le_trans (KBc.size_picked_le _ _ _) (by assumption))) ?_); intro _ _ _ _ _))
local macro_rules | `(tactic| walk_at "call builtin:len") => `(tactic| (k_here; (with_reducible show wpAny _ _ (call (Value.builtin "len") [Value.bytes (rdB _ _ _) _]) _ _ _); refine len_bytes (Nat.le_trans rdB_le (by omega)) ?_))
local macro_rules | `(tactic| walk_at "call builtin:_struct.unpack") => `(tactic| (k_here; k_dflt (refine' unpackBN ?F ?N ?hb ?_; (case F => k_asm); (case N => k_asm); (case hb => assumption); k_whole); intro _ _ _ _ F' N' l1; (try k_lt l1)))
local macro_rules | `(tactic| walk_at "call type:enumerate") => `(tactic| (k_here; (with_reducible show wpAny _ _ (call (Value.type _) [Value.bytes _ _]) _ _ _); k_dflt (refine' call_enumB rfl ?hk ?F ?N ?_; (case hk => assumption); (case F => k_asm); (case N => k_asm); k_whole); intro _ _ F' N' S'))
local macro_rules | `(tactic| walk_at "pyReprObj bytes") => `(tactic| (k_here; (refine repr_bytes (by first | assumption | exact Nat.le_trans rdB_le (by omega)) (by first | assumption | exact literal_le (by first | omega | exact Nat.le_trans rdB_le (by omega))) ?_)))
section
variable {w : World} {p : Program} {loose : List Str} {mean : ExcName → Option Value} {mg mb : Str → Option Value} {dp un : Nat} {gd : Option (List Code)} {cn : Str} {cs : Scope} {a : Addr} {ccd : Value} {cl : List (Str × Addr)} {outer : List Env} {A₀ : Around} {base h₀ : Heap} {L : Addr} {m : Str → Option Value} {s : Shared} {Q E : Value → Shared → Prop}
variable (B : Below A₀ base outer h₀) (F : Fr h₀ L s.heap m) (X : (K w.params).In h₀) (T : Top p loose mean mg mb h₀) (hk : cs.kind = .function)
include B F X T hk
theorem tell_spec {β : Bd} {x d : Addr} {pos : Int} {t : Tok} {rest : List (Addr × Obj)} (hd : dp + 3 < recursionLimit) (hu : un + 30 < cLine)
    (N : News h₀ L s.heap ((x, instObj 350 d) :: (d, bdict w β pos t) :: rest))
    (ret : ∀ h' tk t', Fr h₀ L h' m → News h₀ L h' ((x, instObj 350 d) :: (d, bdict w β pos t) :: rest) → Q (.int pos t') { s with heap := h', toks := tk }) :
    wpAny (model prog w) (ktrTop dp un gd cn cs L a ccd cl outer) (call (.ref 250) [.ref x]) Q E s := by
  refine wpAny_call ?_
  refine' code_def (binds := [(Str.ofString "self", Value.ref x)]) ?k1 ?k2 ?k3 ?k4 ?k5 ?kA ?kF ?kK ?k6 ?k7 ?k8 ?k9 ?kB ?_ ?c2 ?c3 ?c4 ?c5
  case kA => exact rfl
  case kF => exact rfl
  case kK => assumption
  case k1 => k_asm
  case k2 => k_asm
  case k3 => k_asm
  case k4 => k_asm
  case k5 => k_asm
  case k6 => k_dflt k_is
  case k7 => k_dflt k_is
  case k8 => ktr_room
  case k9 => first | exact BindsTo.of_eq rfl | exact binds_K (by k_in) rfl (by k_is) rfl rfl rfl
  case c5 => decide
  case kB => exact locs rfl
  case c2 => exact rfl
  case c3 => exact rfl
  case c4 => exact rfl
  intro g' L' h' FG' F' N' B' X' T'
  (try dsimp only)
  k_fold
  k_steps
  rw [Int.add_zero]
  exact ret _ _ _ (by k_asm) (by k_asm)
theorem seek_spec {β : Bd} {x d : Addr} {pos n : Int} {t tn : Tok} {rest : List (Addr × Obj)} (hd : dp + 4 < recursionLimit) (hu : un + 40 < cLine) (h0 : 0 ≤ n) (h1 : n ≤ 1000000000)
    (N : News h₀ L s.heap ((x, instObj 350 d) :: (d, bdict w β pos t) :: rest)) (n1 : x ≠ d) (n3 : ∀ p ∈ rest, p.1 ≠ d)
    (ret : ∀ h' tk t1 t2, Fr h₀ L h' m → News h₀ L h' ((x, instObj 350 d) :: (d, bdict w β n t1) :: rest) → Q (.int n t2) { s with heap := h', toks := tk }) :
    wpAny (model prog w) (ktrTop dp un gd cn cs L a ccd cl outer) (call (.ref 258) [.ref x, .int n tn]) Q E s := by
  refine wpAny_call ?_
  refine' code_def (binds := [(Str.ofString "self", Value.ref x), (Str.ofString "pos", Value.int n tn), (Str.ofString "whence", Value.int 0 577)]) ?k1 ?k2 ?k3 ?k4 ?k5 ?kA ?kF ?kK ?k6 ?k7 ?k8 ?k9 ?kB ?_ ?c2 ?c3 ?c4 ?c5
  case kA => exact rfl
  case kF => exact rfl
  case kK => assumption
  case k1 => k_asm
  case k2 => k_asm
  case k3 => k_asm
  case k4 => k_asm
  case k5 => k_asm
  case k6 => k_dflt k_is
  case k7 => k_dflt k_is
  case k8 => ktr_room
  case k9 => first | exact BindsTo.of_eq rfl | exact binds_K (by k_in) rfl (by k_is) rfl rfl rfl
  case c5 => decide
  case kB => exact locs rfl
  case c2 => exact rfl
  case c3 => exact rfl
  case c4 => exact rfl
  intro g' L' h' FG' F' N' B' X' T'
  (try dsimp only)
  k_fold
  k_steps
  rw [Int.add_zero]
  exact ret _ _ _ _ (by k_asm) (by k_asm)
theorem end_spec {β : Bd} {x d : Addr} {pos : Int} {t tn tw : Tok} {b : Array UInt8} {rest : List (Addr × Obj)} (hd : dp + 4 < recursionLimit) (hu : un + 40 < cLine) (hz : b.size ≤ 16777216)
    (N : News h₀ L s.heap ((x, instObj 350 d) :: (d, bdict w β pos t) :: (β.ba, baObj b) :: rest)) (n1 : x ≠ d) (n2 : β.ba ≠ d) (n3 : ∀ p ∈ rest, p.1 ≠ d)
    (ret : ∀ h' tk t1 t2, Fr h₀ L h' m → News h₀ L h' ((x, instObj 350 d) :: (d, bdict w β b.size t1) :: (β.ba, baObj b) :: rest) → Q (.int b.size t2) { s with heap := h', toks := tk }) :
    wpAny (model prog w) (ktrTop dp un gd cn cs L a ccd cl outer) (call (.ref 258) [.ref x, .int 0 tn, .int 2 tw]) Q E s := by
  refine wpAny_call ?_
  refine' code_def (binds := [(Str.ofString "self", Value.ref x), (Str.ofString "pos", Value.int 0 tn), (Str.ofString "whence", Value.int 2 tw)]) ?k1 ?k2 ?k3 ?k4 ?k5 ?kA ?kF ?kK ?k6 ?k7 ?k8 ?k9 ?kB ?_ ?c2 ?c3 ?c4 ?c5
  case kA => exact rfl
  case kF => exact rfl
  case kK => assumption
  case k1 => k_asm
  case k2 => k_asm
  case k3 => k_asm
  case k4 => k_asm
  case k5 => k_asm
  case k6 => k_dflt k_is
  case k7 => k_dflt k_is
  case k8 => ktr_room
  case k9 => first | exact BindsTo.of_eq rfl | exact binds_K (by k_in) rfl (by k_is) rfl rfl rfl
  case c5 => decide
  case kB => exact locs rfl
  case c2 => exact rfl
  case c3 => exact rfl
  case c4 => exact rfl
  intro g' L' h' FG' F' N' B' X' T'
  (try dsimp only)
  k_fold
  k_steps
  rw [Int.add_zero]
  have z := ret
  rw [show (b.size : Int) = 0 + b.size from (Int.zero_add _).symm] at z
  exact z _ _ _ _ (by k_asm) (by k_asm)
theorem read_spec {β : Bd} {x d : Addr} {pos n : Nat} {t tn : Tok} {b : Array UInt8} {rest : List (Addr × Obj)} (hd : dp + 4 < recursionLimit) (hu : un + 40 < cLine) (h1 : n ≤ 1000000000) (hp : pos ≤ 1000000000) (hz : b.size ≤ 16777216)
    (N : News h₀ L s.heap ((x, instObj 350 d) :: (d, bdict w β pos t) :: (β.ba, baObj b) :: rest)) (n1 : x ≠ d) (n2 : β.ba ≠ d) (n3 : ∀ p ∈ rest, p.1 ≠ d)
    (ret : ∀ h' tk t1 t2, Fr h₀ L h' m → News h₀ L h' ((x, instObj 350 d) :: (d, bdict w β ((rdP b.size pos n : Nat) : Int) t1) :: (β.ba, baObj b) :: rest) → Q (.bytes (rdB b pos n) t2) { s with heap := h', toks := tk }) :
    wpAny (model prog w) (ktrTop dp un gd cn cs L a ccd cl outer) (call (.ref 274) [.ref x, .int n tn]) Q E s := by
  refine wpAny_call ?_
  refine' code_def (binds := [(Str.ofString "self", Value.ref x), (Str.ofString "size", Value.int n tn)]) ?k1 ?k2 ?k3 ?k4 ?k5 ?kA ?kF ?kK ?k6 ?k7 ?k8 ?k9 ?kB ?_ ?c2 ?c3 ?c4 ?c5
  case kA => exact rfl
  case kF => exact rfl
  case kK => assumption
  case k1 => k_asm
  case k2 => k_asm
  case k3 => k_asm
  case k4 => k_asm
  case k5 => k_asm
  case k6 => k_dflt k_is
  case k7 => k_dflt k_is
  case k8 => ktr_room
  case k9 => first | exact BindsTo.of_eq rfl | exact binds_K (by k_in) rfl (by k_is) rfl rfl rfl
  case c5 => decide
  case kB => exact locs rfl
  case c2 => exact rfl
  case c3 => exact rfl
  case c4 => exact rfl
  intro g' L' h' FG' F' N' B' X' T'
  (try dsimp only)
  k_fold
  k_steps
  · have e1 : ((rdP b.size pos n : Nat) : Int) = pos := by simp only [rdP]; split <;> omega
    have e2 : rdB b pos n = #[] := rdB_nil (by omega)
    clear qk ek
    revert ret
    rw [e1, e2]
    intro ret
    exact ret _ _ _ _ (by k_asm) (by k_asm)
  · have e1 : ((rdP b.size pos n : Nat) : Int) = (pos : Int) + n := by simp only [rdP]; split <;> omega
    rw [rdB_mid (n := n) (by omega)]
    clear qk ek
    revert ret
    rw [e1]
    intro ret
    exact ret _ _ _ _ (by k_asm) (news_sub (by k_asm) (by ((repeat refine sub_cons (by k_mem) ?_); (repeat first | exact sub_self | exact sub_nil | refine sub_up ?_))))
  · have e1 : ((rdP b.size pos n : Nat) : Int) = (b.size : Int) := by simp only [rdP]; split <;> omega
    rw [rdB_end (n := n) (by omega) (by omega)]
    clear qk ek
    revert ret
    rw [e1]
    intro ret
    exact ret _ _ _ _ (by k_asm) (news_sub (by k_asm) (by ((repeat refine sub_cons (by k_mem) ?_); (repeat first | exact sub_self | exact sub_nil | refine sub_up ?_))))
theorem full_spec {β : Bd} {x d : Addr} {pos : Nat} {t : Tok} {b : Array UInt8} {rest : List (Addr × Obj)} (hd : dp + 4 < recursionLimit) (hu : un + 40 < cLine) (hp : pos ≤ 1000000000) (hz : b.size ≤ 16777216)
    (N : News h₀ L s.heap ((x, instObj 350 d) :: (d, bdict w β pos t) :: (β.ba, baObj b) :: rest)) (n1 : x ≠ d) (n2 : β.ba ≠ d) (n3 : ∀ p ∈ rest, p.1 ≠ d)
    (ret : ∀ h' tk t1 t2, Fr h₀ L h' m → News h₀ L h' ((x, instObj 350 d) :: (d, bdict w β ((rdP b.size pos b.size : Nat) : Int) t1) :: (β.ba, baObj b) :: rest) → Q (.bytes (rdB b pos b.size) t2) { s with heap := h', toks := tk }) :
    wpAny (model prog w) (ktrTop dp un gd cn cs L a ccd cl outer) (call (.ref 274) [.ref x]) Q E s := by
  refine wpAny_call ?_
  refine' code_def (binds := [(Str.ofString "self", Value.ref x), (Str.ofString "size", Value.int (-1) 596)]) ?k1 ?k2 ?k3 ?k4 ?k5 ?kA ?kF ?kK ?k6 ?k7 ?k8 ?k9 ?kB ?_ ?c2 ?c3 ?c4 ?c5
  case kA => exact rfl
  case kF => exact rfl
  case kK => assumption
  case k1 => k_asm
  case k2 => k_asm
  case k3 => k_asm
  case k4 => k_asm
  case k5 => k_asm
  case k6 => k_dflt k_is
  case k7 => k_dflt k_is
  case k8 => ktr_room
  case k9 => first | exact BindsTo.of_eq rfl | exact binds_K (by k_in) rfl (by k_is) rfl rfl rfl
  case c5 => decide
  case kB => exact locs rfl
  case c2 => exact rfl
  case c3 => exact rfl
  case c4 => exact rfl
  intro g' L' h' FG' F' N' B' X' T'
  (try dsimp only)
  k_fold
  k_steps
  · have e1 : ((rdP b.size pos b.size : Nat) : Int) = pos := by simp only [rdP]; split <;> omega
    have e2 : rdB b pos b.size = #[] := rdB_nil (by omega)
    clear qk ek
    revert ret
    rw [e1, e2]
    intro ret
    exact ret _ _ _ _ (by k_asm) (by k_asm)
  · have e1 : ((rdP b.size pos b.size : Nat) : Int) = (b.size : Int) := by simp only [rdP]; split <;> omega
    rw [rdB_end (n := b.size) (by omega) (by omega)]
    clear qk ek
    revert ret
    rw [e1]
    intro ret
    exact ret _ _ _ _ (by k_asm) (news_sub (by k_asm) (by ((repeat refine sub_cons (by k_mem) ?_); (repeat first | exact sub_self | exact sub_nil | refine sub_up ?_))))
end
end Mine
end
section
open PySem PySem.W PySem.Calls PyProof.Rows PySem.Spec
set_option maxRecDepth 100000
set_option maxHeartbeats 8000000
namespace Mine
theorem resetHook {M : Model} {A : Around} {env : Env} {x : Str} {v : Value} {Q : Unit → Shared → Prop} {E : Value → Shared → Prop} {s : Shared} (h : wpAny M A (storeName env x v) Q E s) : wpAny M A (storeName env x v) Q E s := by
  w_top off
  k_with_none
  first
    | (walk1; fail)
    | exact h
section
variable {w : World} {p : Program} {loose : List Str} {mean : ExcName → Option Value} {mg mb : Str → Option Value} {dp un : Nat} {gd : Option (List Code)} {cn : Str} {cs : Scope} {a : Addr} {ccd : Value} {cl : List (Str × Addr)} {outer : List Env} {A₀ : Around} {base h₀ : Heap} {L : Addr} {m : Str → Option Value} {s : Shared} {Q E : Value → Shared → Prop}
variable (B : Below A₀ base outer h₀) (F : Fr h₀ L s.heap m) (X : (K w.params).In h₀) (T : Top p loose mean mg mb h₀) (hk : cs.kind = .function)
include B F X T hk
theorem tell_pk {β : Bd} {x d : Addr} {pos : Int} {t : Tok} {l l1 rest : List (Addr × Obj)} (hd : dp + 3 < recursionLimit) (hu : un + 30 < cLine)
    (N : News h₀ L s.heap l) (P1 : Pick (x, instObj 350 d) l l1) (P2 : Pick (d, bdict w β pos t) l1 rest)
    (ret : ∀ h' tk t', Fr h₀ L h' m → News h₀ L h' ((x, instObj 350 d) :: (d, bdict w β pos t) :: rest) → Q (.int pos t') { s with heap := h', toks := tk }) :
    wpAny (model prog w) (ktrTop dp un gd cn cs L a ccd cl outer) (call (.ref 250) [.ref x]) Q E s :=
  tell_spec B F X T hk hd hu (news_sub N (P1.cons (P2.cons sub_self))) ret
theorem seek_pk {β : Bd} {x d : Addr} {pos n : Int} {t tn : Tok} {l l1 rest : List (Addr × Obj)} (hd : dp + 4 < recursionLimit) (hu : un + 40 < cLine) (h0 : 0 ≤ n) (h1 : n ≤ 1000000000)
    (N : News h₀ L s.heap l) (P1 : Pick (x, instObj 350 d) l l1) (P2 : Pick (d, bdict w β pos t) l1 rest) (n1 : x ≠ d) (n3 : ∀ p ∈ rest, p.1 ≠ d)
    (ret : ∀ h' tk t1 t2, Fr h₀ L h' m → News h₀ L h' ((x, instObj 350 d) :: (d, bdict w β n t1) :: rest) → Q (.int n t2) { s with heap := h', toks := tk }) :
    wpAny (model prog w) (ktrTop dp un gd cn cs L a ccd cl outer) (call (.ref 258) [.ref x, .int n tn]) Q E s :=
  seek_spec B F X T hk hd hu h0 h1 (news_sub N (P1.cons (P2.cons sub_self))) n1 n3 ret
theorem end_pk {β : Bd} {x d : Addr} {pos : Int} {t tn tw : Tok} {b : Array UInt8} {l l1 l2 rest : List (Addr × Obj)} (hd : dp + 4 < recursionLimit) (hu : un + 40 < cLine) (hz : b.size ≤ 16777216)
    (N : News h₀ L s.heap l) (P1 : Pick (x, instObj 350 d) l l1) (P2 : Pick (d, bdict w β pos t) l1 l2) (P3 : Pick (β.ba, baObj b) l2 rest) (n1 : x ≠ d) (n2 : β.ba ≠ d) (n3 : ∀ p ∈ rest, p.1 ≠ d)
    (ret : ∀ h' tk t1 t2, Fr h₀ L h' m → News h₀ L h' ((x, instObj 350 d) :: (d, bdict w β b.size t1) :: (β.ba, baObj b) :: rest) → Q (.int b.size t2) { s with heap := h', toks := tk }) :
    wpAny (model prog w) (ktrTop dp un gd cn cs L a ccd cl outer) (call (.ref 258) [.ref x, .int 0 tn, .int 2 tw]) Q E s :=
  end_spec B F X T hk hd hu hz (news_sub N (P1.cons (P2.cons (P3.cons sub_self)))) n1 n2 n3 ret
theorem read_pk {β : Bd} {x d : Addr} {pos n : Nat} {t tn : Tok} {b : Array UInt8} {l l1 l2 rest : List (Addr × Obj)} (hd : dp + 4 < recursionLimit) (hu : un + 40 < cLine) (h1 : n ≤ 1000000000) (hp : pos ≤ 1000000000) (hz : b.size ≤ 16777216)
    (N : News h₀ L s.heap l) (P1 : Pick (x, instObj 350 d) l l1) (P2 : Pick (d, bdict w β (pos : Int) t) l1 l2) (P3 : Pick (β.ba, baObj b) l2 rest) (n1 : x ≠ d) (n2 : β.ba ≠ d) (n3 : ∀ p ∈ rest, p.1 ≠ d)
    (ret : ∀ h' tk t1 t2, Fr h₀ L h' m → News h₀ L h' ((x, instObj 350 d) :: (d, bdict w β ((rdP b.size pos n : Nat) : Int) t1) :: (β.ba, baObj b) :: rest) → Q (.bytes (rdB b pos n) t2) { s with heap := h', toks := tk }) :
    wpAny (model prog w) (ktrTop dp un gd cn cs L a ccd cl outer) (call (.ref 274) [.ref x, .int (n : Int) tn]) Q E s :=
  read_spec B F X T hk hd hu h1 hp hz (news_sub N (P1.cons (P2.cons (P3.cons sub_self)))) n1 n2 n3 ret
theorem full_pk {β : Bd} {x d : Addr} {pos : Nat} {t : Tok} {b : Array UInt8} {l l1 l2 rest : List (Addr × Obj)} (hd : dp + 4 < recursionLimit) (hu : un + 40 < cLine) (hp : pos ≤ 1000000000) (hz : b.size ≤ 16777216)
    (N : News h₀ L s.heap l) (P1 : Pick (x, instObj 350 d) l l1) (P2 : Pick (d, bdict w β (pos : Int) t) l1 l2) (P3 : Pick (β.ba, baObj b) l2 rest) (n1 : x ≠ d) (n2 : β.ba ≠ d) (n3 : ∀ p ∈ rest, p.1 ≠ d)
    (ret : ∀ h' tk t1 t2, Fr h₀ L h' m → News h₀ L h' ((x, instObj 350 d) :: (d, bdict w β ((rdP b.size pos b.size : Nat) : Int) t1) :: (β.ba, baObj b) :: rest) → Q (.bytes (rdB b pos b.size) t2) { s with heap := h', toks := tk }) :
    wpAny (model prog w) (ktrTop dp un gd cn cs L a ccd cl outer) (call (.ref 274) [.ref x]) Q E s :=
  full_spec B F X T hk hd hu hp hz (news_sub N (P1.cons (P2.cons (P3.cons sub_self)))) n1 n2 n3 ret
end
end Mine
end
section
open PySem PySem.W PySem.Calls PyProof.Rows PySem.Spec
set_option maxRecDepth 100000
set_option maxHeartbeats 8000000
namespace Mine
theorem resetStr {M : Model} {A : Around} {env : Env} {x : Str} {v : Value} {Q : Unit → Shared → Prop} {E : Value → Shared → Prop} {s : Shared} (h : wpAny M A (storeName env x v) Q E s) : wpAny M A (storeName env x v) Q E s := by
  w_top off
  k_with_none
  first
    | (walk1; fail)
    | exact h
local macro_rules | `(tactic| k_upd) => `(tactic| first | exact Pick.head | (refine' Pick.tail ?pp; (case pp => k_upd)))
local macro_rules | `(tactic| k_all) => `(tactic| assumption)
local macro_rules | `(tactic| k_room) => `(tactic| ktr_room)
local macro_rules | `(tactic| walk_at "call type:type") => `(tactic| refine call_type_of (PySem.W.typeIs_bytes _ _ _) (by decide +kernel) ?_)
local macro_rules | `(tactic| walk_at "call builtin:len") => `(tactic| (k_here; (with_reducible show wpAny _ _ (call (Value.builtin "len") [Value.ref _]) _ _ _); k_dflt (refine' len_baN ?N ?m ?z ?_; (case N => k_asm); (case m => k_mem); (case z => (first | assumption | exact Nat.le_trans (KBc.size_picked_le _ _ _) (by assumption))); k_whole); intro _ _))
local macro_rules | `(tactic| walk_at "call type:bytes") => `(tactic| (k_here; (with_reducible show wpAny _ _ (call (Value.type "bytes") [Value.ref _]) _ _ _); k_dflt (refine' bytes_baN ?N ?m ?z ?_; (case N => k_asm); (case m => k_mem); (case z => (first | assumption | exact Nat.le_trans (KBc.size_picked_le _ _ _) (by assumption))); k_whole); intro _ _))
local macro_rules | `(tactic| walk_at "subscriptTail") => `(tactic| (k_here; (with_reducible show wpAny _ _ (subscriptTail _ (Expr.Slice _ _ none _) (Value.ref _) (Value.ref _)) _ _ _); (with_reducible rename Fr _ _ _ _ => F'); (with_reducible rename News _ _ _ _ => N'); (refine cut_baN (s := ⟨_, _, _, _, _⟩) F' N' (by k_mem) (by constructor) (by constructor) (by (first | assumption | exact Nat.le_trans (KBc.size_picked_le _ _ _) (by assumption))) ?_); intro _ _ _ _ _))
local macro_rules | `(tactic| walk_at "call builtin:len") => `(tactic| (k_here; (with_reducible show wpAny _ _ (call (Value.builtin "len") [Value.bytes (rdB _ _ _) _]) _ _ _); refine len_bytes (Nat.le_trans rdB_le (by omega)) ?_))
local macro_rules | `(tactic| walk_at "call builtin:_struct.unpack") => `(tactic| (k_here; k_dflt (refine' unpackBN ?F ?N ?hb ?_; (case F => k_asm); (case N => k_asm); (case hb => assumption); k_whole); intro _ _ _ _ F' N' l1; (try k_lt l1)))
local macro_rules | `(tactic| walk_at "call type:enumerate") => `(tactic| (k_here; (with_reducible show wpAny _ _ (call (Value.type _) [Value.bytes _ _]) _ _ _); k_dflt (refine' call_enumB rfl ?hk ?F ?N ?_; (case hk => assumption); (case F => k_asm); (case N => k_asm); k_whole); intro _ _ F' N' S'))
local macro_rules | `(tactic| walk_at "pyReprObj bytes") => `(tactic| (k_here; (refine repr_bytes (by first | assumption | exact Nat.le_trans rdB_le (by omega)) (by first | assumption | exact literal_le (by first | omega | exact Nat.le_trans rdB_le (by omega))) ?_)))
local macro_rules | `(tactic| walk_at "call ref") => `(tactic| (k_here; k_dflt (first
  | ((with_reducible show wpAny _ _ (call (Value.ref 250) _) _ _ _); refine' tell_pk ?B ?F ?X ?T ?hk ?hd ?hu ?N ?P1 ?P2 ?_; (case F => k_asm); (case X => k_asm); (case T => k_asm); (case B => k_asm); (case hk => (first | assumption | rfl)); (case N => k_asm); (case hd => (first | omega | ((try simp only [depth_deeper, units_deeper, depth_in1, units_in1]); (try dsimp only [ktrTop]); omega))); (case hu => (first | omega | ((try simp only [depth_deeper, units_deeper, depth_in1, units_in1]); (try dsimp only [ktrTop]); omega))); (case P1 => k_upd); (case P2 => k_upd); k_whole; intro _ _ _ F' N')
  | ((with_reducible show wpAny _ _ (call (Value.ref 258) _) _ _ _); refine' end_pk ?B ?F ?X ?T ?hk ?hd ?hu ?hz ?N ?P1 ?P2 ?P3 ?n1 ?n2 ?n3 ?_; (case F => k_asm); (case X => k_asm); (case T => k_asm); (case B => k_asm); (case hk => (first | assumption | rfl)); (case N => k_asm); (case hd => (first | omega | ((try simp only [depth_deeper, units_deeper, depth_in1, units_in1]); (try dsimp only [ktrTop]); omega))); (case hu => (first | omega | ((try simp only [depth_deeper, units_deeper, depth_in1, units_in1]); (try dsimp only [ktrTop]); omega))); (case hz => assumption); (case P1 => k_upd); (case P2 => k_upd); (case P3 => k_upd); (case n1 => (first | assumption | k_ne)); (case n2 => (first | assumption | k_ne)); (case n3 => k_all); k_whole; intro _ _ _ _ F' N')
  | ((with_reducible show wpAny _ _ (call (Value.ref 258) _) _ _ _); refine' seek_pk ?B ?F ?X ?T ?hk ?hd ?hu ?h0 ?h1 ?N ?P1 ?P2 ?n1 ?n3 ?_; (case F => k_asm); (case X => k_asm); (case T => k_asm); (case B => k_asm); (case hk => (first | assumption | rfl)); (case N => k_asm); (case hd => (first | omega | ((try simp only [depth_deeper, units_deeper, depth_in1, units_in1]); (try dsimp only [ktrTop]); omega))); (case hu => (first | omega | ((try simp only [depth_deeper, units_deeper, depth_in1, units_in1]); (try dsimp only [ktrTop]); omega))); (case h0 => (first | omega | ((try simp only [depth_deeper, units_deeper, depth_in1, units_in1]); (try dsimp only [ktrTop]); omega))); (case h1 => (first | omega | ((try simp only [depth_deeper, units_deeper, depth_in1, units_in1]); (try dsimp only [ktrTop]); omega))); (case P1 => k_upd); (case P2 => k_upd); (case n1 => (first | assumption | k_ne)); (case n3 => k_all); k_whole; intro _ _ _ _ F' N')
  | ((with_reducible show wpAny _ _ (call (Value.ref 274) _) _ _ _); refine' read_pk ?B ?F ?X ?T ?hk ?hd ?hu ?h1 ?hp ?hz ?N ?P1 ?P2 ?P3 ?n1 ?n2 ?n3 ?_; (case F => k_asm); (case X => k_asm); (case T => k_asm); (case B => k_asm); (case hk => (first | assumption | rfl)); (case N => k_asm); (case hd => (first | omega | ((try simp only [depth_deeper, units_deeper, depth_in1, units_in1]); (try dsimp only [ktrTop]); omega))); (case hu => (first | omega | ((try simp only [depth_deeper, units_deeper, depth_in1, units_in1]); (try dsimp only [ktrTop]); omega))); (case h1 => (first | omega | ((try simp only [depth_deeper, units_deeper, depth_in1, units_in1]); (try dsimp only [ktrTop]); omega))); (case hp => (first | omega | ((try simp only [depth_deeper, units_deeper, depth_in1, units_in1]); (try dsimp only [ktrTop]); omega))); (case hz => assumption); (case P1 => k_upd); (case P2 => k_upd); (case P3 => k_upd); (case n1 => (first | assumption | k_ne)); (case n2 => (first | assumption | k_ne)); (case n3 => k_all); k_whole; intro _ _ _ _ F' N')
  | ((with_reducible show wpAny _ _ (call (Value.ref 274) _) _ _ _); refine' full_pk ?B ?F ?X ?T ?hk ?hd ?hu ?hp ?hz ?N ?P1 ?P2 ?P3 ?n1 ?n2 ?n3 ?_; (case F => k_asm); (case X => k_asm); (case T => k_asm); (case B => k_asm); (case hk => (first | assumption | rfl)); (case N => k_asm); (case hd => (first | omega | ((try simp only [depth_deeper, units_deeper, depth_in1, units_in1]); (try dsimp only [ktrTop]); omega))); (case hu => (first | omega | ((try simp only [depth_deeper, units_deeper, depth_in1, units_in1]); (try dsimp only [ktrTop]); omega))); (case hp => (first | omega | ((try simp only [depth_deeper, units_deeper, depth_in1, units_in1]); (try dsimp only [ktrTop]); omega))); (case hz => assumption); (case P1 => k_upd); (case P2 => k_upd); (case P3 => k_upd); (case n1 => (first | assumption | k_ne)); (case n2 => (first | assumption | k_ne)); (case n3 => k_all); k_whole; intro _ _ _ _ F' N'))))
section
variable {w : World} {p : Program} {loose : List Str} {mean : ExcName → Option Value} {mg mb : Str → Option Value} {dp un : Nat} {gd : Option (List Code)} {cn : Str} {cs : Scope} {a : Addr} {ccd : Value} {cl : List (Str × Addr)} {outer : List Env} {A₀ : Around} {base h₀ : Heap} {L : Addr} {m : Str → Option Value} {s : Shared} {Q E : Value → Shared → Prop}
variable (B : Below A₀ base outer h₀) (F : Fr h₀ L s.heap m) (X : (K w.params).In h₀) (T : Top p loose mean mg mb h₀) (hk : cs.kind = .function)
include B F X T hk
theorem size_spec {σ : Sd} {β : Bd} {y e d : Addr} {b : Array UInt8} {rest : List (Addr × Obj)} {bl bits : Int} {u1 u2 t : Tok} {pos : Nat} (hd : dp + 8 < recursionLimit) (hu : un + 80 < cLine) (hp : pos ≤ 1000000000) (hz : b.size ≤ 16777216)
    {l l1 l2 l3 l4 : List (Addr × Obj)} (N0 : News h₀ L s.heap l) (P1 : Pick (y, instObj 1075 e) l l1) (P2 : Pick (e, sdict w σ (bl) u1 (bits) u2) l1 l2) (P3 : Pick (σ.io, instObj 350 d) l2 l3) (P4 : Pick (d, bdict w β ((pos : Int)) t) l3 l4) (P5 : Pick (β.ba, baObj b) l4 rest) (ap : Ap y e σ.io d β.ba rest)
    (ret : ∀ h' tk t1 t2, Fr h₀ L h' m → News h₀ L h' ((y, instObj 1075 e) :: (e, sdict w σ (bl) u1 (bits) u2) :: (σ.io, instObj 350 d) :: (d, bdict w β ((pos : Int)) t1) :: (β.ba, baObj b) :: rest) → Q (.int b.size t2) { s with heap := h', toks := tk }) :
    wpAny (model prog w) (ktrTop dp un gd cn cs L a ccd cl outer) (call (.ref 696) [.ref y]) Q E s := by
  (obtain ⟨ap1, ap2, ap3, ap4, ap5, ap6, ap7, ap8, ap9⟩ := ap); (replace ap1 := neN ap1); (replace ap2 := neN ap2); (replace ap3 := neN ap3); (replace ap4 := neN ap4); (replace ap5 := neN ap5); (replace ap6 := neN ap6); (replace ap7 := neN ap7)
  have N := news_sub N0 (P1.cons (P2.cons (P3.cons (P4.cons (P5.cons sub_self))))); clear N0 P1 P2 P3 P4 P5
  refine wpAny_call ?_
  refine' code_def (binds := [(Str.ofString "self", Value.ref y)]) ?k1 ?k2 ?k3 ?k4 ?k5 ?kA ?kF ?kK ?k6 ?k7 ?k8 ?k9 ?kB ?_ ?c2 ?c3 ?c4 ?c5
  case kA => exact rfl
  case kF => exact rfl
  case kK => assumption
  case k1 => k_asm
  case k2 => k_asm
  case k3 => k_asm
  case k4 => k_asm
  case k5 => k_asm
  case k6 => k_dflt k_is
  case k7 => k_dflt k_is
  case k8 => ktr_room
  case k9 => first | exact BindsTo.of_eq rfl | exact binds_K (by k_in) rfl (by k_is) rfl rfl rfl
  case c5 => decide
  case kB => exact locs rfl
  case c2 => exact rfl
  case c3 => exact rfl
  case c4 => exact rfl
  intro g' L' h' FG' F' N' B' X' T'
  (try dsimp only)
  k_fold
  k_steps
  exact ret _ _ _ _ (by k_asm) (news_sub (by k_asm) (by ((repeat refine sub_cons (by k_mem) ?_); (repeat first | exact sub_self | exact sub_nil | refine sub_up ?_))))
theorem align_spec {σ : Sd} {β : Bd} {y e d : Addr} {b : Array UInt8} {rest : List (Addr × Obj)} {bl bits : Int} {u1 u2 t : Tok} {pos : Int} (hd : dp + 8 < recursionLimit) (hu : un + 80 < cLine)
    {l l1 l2 l3 l4 : List (Addr × Obj)} (N0 : News h₀ L s.heap l) (P1 : Pick (y, instObj 1075 e) l l1) (P2 : Pick (e, sdict w σ (bl) u1 (bits) u2) l1 l2) (P3 : Pick (σ.io, instObj 350 d) l2 l3) (P4 : Pick (d, bdict w β (pos) t) l3 l4) (P5 : Pick (β.ba, baObj b) l4 rest) (ap : Ap y e σ.io d β.ba rest)
    (ret : ∀ h' tk t1 t2, Fr h₀ L h' m → News h₀ L h' ((y, instObj 1075 e) :: (e, sdict w σ (0) t1 (0) t2) :: (σ.io, instObj 350 d) :: (d, bdict w β (pos) t) :: (β.ba, baObj b) :: rest) → Q .none { s with heap := h', toks := tk }) :
    wpAny (model prog w) (ktrTop dp un gd cn cs L a ccd cl outer) (call (.ref 752) [.ref y]) Q E s := by
  (obtain ⟨ap1, ap2, ap3, ap4, ap5, ap6, ap7, ap8, ap9⟩ := ap); (replace ap1 := neN ap1); (replace ap2 := neN ap2); (replace ap3 := neN ap3); (replace ap4 := neN ap4); (replace ap5 := neN ap5); (replace ap6 := neN ap6); (replace ap7 := neN ap7)
  have N := news_sub N0 (P1.cons (P2.cons (P3.cons (P4.cons (P5.cons sub_self))))); clear N0 P1 P2 P3 P4 P5
  refine wpAny_call ?_
  refine' code_def (binds := [(Str.ofString "self", Value.ref y)]) ?k1 ?k2 ?k3 ?k4 ?k5 ?kA ?kF ?kK ?k6 ?k7 ?k8 ?k9 ?kB ?_ ?c2 ?c3 ?c4 ?c5
  case kA => exact rfl
  case kF => exact rfl
  case kK => assumption
  case k1 => k_asm
  case k2 => k_asm
  case k3 => k_asm
  case k4 => k_asm
  case k5 => k_asm
  case k6 => k_dflt k_is
  case k7 => k_dflt k_is
  case k8 => ktr_room
  case k9 => first | exact BindsTo.of_eq rfl | exact binds_K (by k_in) rfl (by k_is) rfl rfl rfl
  case c5 => decide
  case kB => exact locs rfl
  case c2 => exact rfl
  case c3 => exact rfl
  case c4 => exact rfl
  intro g' L' h' FG' F' N' B' X' T'
  (try dsimp only)
  k_fold
  k_steps
  exact ret _ _ _ _ (by k_asm) (news_sub (by k_asm) (by ((repeat refine sub_cons (by k_mem) ?_); (repeat first | exact sub_self | exact sub_nil | refine sub_up ?_))))
theorem pos_spec {σ : Sd} {β : Bd} {y e d : Addr} {b : Array UInt8} {rest : List (Addr × Obj)} {bl bits : Int} {u1 u2 t : Tok} {pos : Int} (hd : dp + 8 < recursionLimit) (hu : un + 80 < cLine)
    {l l1 l2 l3 l4 : List (Addr × Obj)} (N0 : News h₀ L s.heap l) (P1 : Pick (y, instObj 1075 e) l l1) (P2 : Pick (e, sdict w σ (bl) u1 (bits) u2) l1 l2) (P3 : Pick (σ.io, instObj 350 d) l2 l3) (P4 : Pick (d, bdict w β (pos) t) l3 l4) (P5 : Pick (β.ba, baObj b) l4 rest) (ap : Ap y e σ.io d β.ba rest)
    (ret : ∀ h' tk t2, Fr h₀ L h' m → News h₀ L h' ((y, instObj 1075 e) :: (e, sdict w σ (bl) u1 (bits) u2) :: (σ.io, instObj 350 d) :: (d, bdict w β (pos) t) :: (β.ba, baObj b) :: rest) → Q (.int pos t2) { s with heap := h', toks := tk }) :
    wpAny (model prog w) (ktrTop dp un gd cn cs L a ccd cl outer) (call (.ref 689) [.ref y]) Q E s := by
  (obtain ⟨ap1, ap2, ap3, ap4, ap5, ap6, ap7, ap8, ap9⟩ := ap); (replace ap1 := neN ap1); (replace ap2 := neN ap2); (replace ap3 := neN ap3); (replace ap4 := neN ap4); (replace ap5 := neN ap5); (replace ap6 := neN ap6); (replace ap7 := neN ap7)
  have N := news_sub N0 (P1.cons (P2.cons (P3.cons (P4.cons (P5.cons sub_self))))); clear N0 P1 P2 P3 P4 P5
  refine wpAny_call ?_
  refine' code_def (binds := [(Str.ofString "self", Value.ref y)]) ?k1 ?k2 ?k3 ?k4 ?k5 ?kA ?kF ?kK ?k6 ?k7 ?k8 ?k9 ?kB ?_ ?c2 ?c3 ?c4 ?c5
  case kA => exact rfl
  case kF => exact rfl
  case kK => assumption
  case k1 => k_asm
  case k2 => k_asm
  case k3 => k_asm
  case k4 => k_asm
  case k5 => k_asm
  case k6 => k_dflt k_is
  case k7 => k_dflt k_is
  case k8 => ktr_room
  case k9 => first | exact BindsTo.of_eq rfl | exact binds_K (by k_in) rfl (by k_is) rfl rfl rfl
  case c5 => decide
  case kB => exact locs rfl
  case c2 => exact rfl
  case c3 => exact rfl
  case c4 => exact rfl
  intro g' L' h' FG' F' N' B' X' T'
  (try dsimp only)
  k_fold
  k_steps
  rw [Int.add_zero]
  exact ret _ _ _ (by k_asm) (news_sub (by k_asm) (by ((repeat refine sub_cons (by k_mem) ?_); (repeat first | exact sub_self | exact sub_nil | refine sub_up ?_))))
local macro_rules | `(tactic| walk_at "call ref") => `(tactic| (k_here; k_dflt (first
  | ((with_reducible show wpAny _ _ (call (Value.ref 696) _) _ _ _); refine' size_spec ?B ?F ?X ?T ?hk ?hd ?hu ?hp ?hz ?N0 ?P1 ?P2 ?P3 ?P4 ?P5 ?ap ?_; (case F => k_asm); (case X => k_asm); (case T => k_asm); (case B => k_asm); (case hk => (first | assumption | rfl)); (case N0 => k_asm); (case P1 => k_upd); (case P2 => k_upd); (case P3 => k_upd); (case P4 => k_upd); (case P5 => k_upd); (case ap => (exact Ap.mk (by (first | assumption | k_ne)) (by (first | assumption | k_ne)) (by (first | assumption | k_ne)) (by (first | assumption | k_ne)) (by (first | assumption | k_ne)) (by (first | assumption | k_ne)) (by (first | assumption | k_ne)) (by k_all) (by k_all))); (case hd => (first | omega | ((try simp only [depth_deeper, units_deeper, depth_in1, units_in1]); (try dsimp only [ktrTop]); omega))); (case hu => (first | omega | ((try simp only [depth_deeper, units_deeper, depth_in1, units_in1]); (try dsimp only [ktrTop]); omega))); (case hp => (first | omega | ((try simp only [depth_deeper, units_deeper, depth_in1, units_in1]); (try dsimp only [ktrTop]); omega))); (case hz => assumption); k_whole; intro _ _ _ _ F' N'))))
theorem eof_spec {σ : Sd} {β : Bd} {y e d : Addr} {b : Array UInt8} {rest : List (Addr × Obj)} {bl bits : Int} {u1 u2 t : Tok} {pos : Nat} (hd : dp + 18 < recursionLimit) (hu : un + 180 < cLine) (hp : pos ≤ 1000000000) (hz : b.size ≤ 16777216)
    {l l1 l2 l3 l4 : List (Addr × Obj)} (N0 : News h₀ L s.heap l) (P1 : Pick (y, instObj 1075 e) l l1) (P2 : Pick (e, sdict w σ (bl) u1 (bits) u2) l1 l2) (P3 : Pick (σ.io, instObj 350 d) l2 l3) (P4 : Pick (d, bdict w β ((pos : Int)) t) l3 l4) (P5 : Pick (β.ba, baObj b) l4 rest) (ap : Ap y e σ.io d β.ba rest)
    (ret : ∀ h' tk t1, Fr h₀ L h' m → News h₀ L h' ((y, instObj 1075 e) :: (e, sdict w σ (bl) u1 (bits) u2) :: (σ.io, instObj 350 d) :: (d, bdict w β ((pos : Int)) t1) :: (β.ba, baObj b) :: rest) → Q (.bool (decide (bl ≤ 0) && decide (b.size ≤ pos))) { s with heap := h', toks := tk }) :
    wpAny (model prog w) (ktrTop dp un gd cn cs L a ccd cl outer) (call (.ref 675) [.ref y]) Q E s := by
  (obtain ⟨ap1, ap2, ap3, ap4, ap5, ap6, ap7, ap8, ap9⟩ := ap); (replace ap1 := neN ap1); (replace ap2 := neN ap2); (replace ap3 := neN ap3); (replace ap4 := neN ap4); (replace ap5 := neN ap5); (replace ap6 := neN ap6); (replace ap7 := neN ap7)
  have N := news_sub N0 (P1.cons (P2.cons (P3.cons (P4.cons (P5.cons sub_self))))); clear N0 P1 P2 P3 P4 P5
  refine wpAny_call ?_
  refine' code_def (binds := [(Str.ofString "self", Value.ref y)]) ?k1 ?k2 ?k3 ?k4 ?k5 ?kA ?kF ?kK ?k6 ?k7 ?k8 ?k9 ?kB ?_ ?c2 ?c3 ?c4 ?c5
  case kA => exact rfl
  case kF => exact rfl
  case kK => assumption
  case k1 => k_asm
  case k2 => k_asm
  case k3 => k_asm
  case k4 => k_asm
  case k5 => k_asm
  case k6 => k_dflt k_is
  case k7 => k_dflt k_is
  case k8 => ktr_room
  case k9 => first | exact BindsTo.of_eq rfl | exact binds_K (by k_in) rfl (by k_is) rfl rfl rfl
  case c5 => decide
  case kB => exact locs rfl
  case c2 => exact rfl
  case c3 => exact rfl
  case c4 => exact rfl
  intro g' L' h' FG' F' N' B' X' T'
  (try dsimp only)
  k_fold
  k_steps
  · rw [show (decide (bl ≤ 0) && decide (b.size ≤ pos)) = false by simp; omega] at ret
    exact ret _ _ _ (by k_asm) (news_sub (by k_asm) (by ((repeat refine sub_cons (by k_mem) ?_); (repeat first | exact sub_self | exact sub_nil | refine sub_up ?_))))
  · rw [show (decide (bl ≤ 0) && decide (b.size ≤ pos)) = decide ((b.size : Int) ≤ (pos : Int)) by rw [decide_eq_true (by omega : bl ≤ 0)]; simp] at ret
    exact ret _ _ _ (by k_asm) (news_sub (by k_asm) (by ((repeat refine sub_cons (by k_mem) ?_); (repeat first | exact sub_self | exact sub_nil | refine sub_up ?_))))
local macro_rules | `(tactic| walk_at "call ref") => `(tactic| (k_here; k_dflt (first
  | ((with_reducible show wpAny _ _ (call (Value.ref 752) _) _ _ _); refine' align_spec ?B ?F ?X ?T ?hk ?hd ?hu ?N0 ?P1 ?P2 ?P3 ?P4 ?P5 ?ap ?_; (case F => k_asm); (case X => k_asm); (case T => k_asm); (case B => k_asm); (case hk => (first | assumption | rfl)); (case N0 => k_asm); (case P1 => k_upd); (case P2 => k_upd); (case P3 => k_upd); (case P4 => k_upd); (case P5 => k_upd); (case ap => (exact Ap.mk (by (first | assumption | k_ne)) (by (first | assumption | k_ne)) (by (first | assumption | k_ne)) (by (first | assumption | k_ne)) (by (first | assumption | k_ne)) (by (first | assumption | k_ne)) (by (first | assumption | k_ne)) (by k_all) (by k_all))); (case hd => (first | omega | ((try simp only [depth_deeper, units_deeper, depth_in1, units_in1]); (try dsimp only [ktrTop]); omega))); (case hu => (first | omega | ((try simp only [depth_deeper, units_deeper, depth_in1, units_in1]); (try dsimp only [ktrTop]); omega))); k_whole; intro _ _ _ _ F' N'))))
theorem sseek_spec {σ : Sd} {β : Bd} {y e d : Addr} {b : Array UInt8} {rest : List (Addr × Obj)} {bl bits : Int} {u1 u2 t tn : Tok} {pos : Int} {n : Nat} (hd : dp + 18 < recursionLimit) (hu : un + 180 < cLine) (h1 : n ≤ 1000000000)
    {l l1 l2 l3 l4 : List (Addr × Obj)} (N0 : News h₀ L s.heap l) (P1 : Pick (y, instObj 1075 e) l l1) (P2 : Pick (e, sdict w σ (bl) u1 (bits) u2) l1 l2) (P3 : Pick (σ.io, instObj 350 d) l2 l3) (P4 : Pick (d, bdict w β (pos) t) l3 l4) (P5 : Pick (β.ba, baObj b) l4 rest) (ap : Ap y e σ.io d β.ba rest)
    (ret : ∀ h' tk t1 t2 t3, Fr h₀ L h' m → News h₀ L h' ((y, instObj 1075 e) :: (e, sdict w σ (0) t1 (0) t2) :: (σ.io, instObj 350 d) :: (d, bdict w β ((n : Int)) t3) :: (β.ba, baObj b) :: rest) → Q .none { s with heap := h', toks := tk }) :
    wpAny (model prog w) (ktrTop dp un gd cn cs L a ccd cl outer) (call (.ref 682) [.ref y, .int (n : Int) tn]) Q E s := by
  (obtain ⟨ap1, ap2, ap3, ap4, ap5, ap6, ap7, ap8, ap9⟩ := ap); (replace ap1 := neN ap1); (replace ap2 := neN ap2); (replace ap3 := neN ap3); (replace ap4 := neN ap4); (replace ap5 := neN ap5); (replace ap6 := neN ap6); (replace ap7 := neN ap7)
  have N := news_sub N0 (P1.cons (P2.cons (P3.cons (P4.cons (P5.cons sub_self))))); clear N0 P1 P2 P3 P4 P5
  refine wpAny_call ?_
  refine' code_def (binds := [(Str.ofString "self", Value.ref y), (Str.ofString "n", Value.int (n : Int) tn)]) ?k1 ?k2 ?k3 ?k4 ?k5 ?kA ?kF ?kK ?k6 ?k7 ?k8 ?k9 ?kB ?_ ?c2 ?c3 ?c4 ?c5
  case kA => exact rfl
  case kF => exact rfl
  case kK => assumption
  case k1 => k_asm
  case k2 => k_asm
  case k3 => k_asm
  case k4 => k_asm
  case k5 => k_asm
  case k6 => k_dflt k_is
  case k7 => k_dflt k_is
  case k8 => ktr_room
  case k9 => first | exact BindsTo.of_eq rfl | exact binds_K (by k_in) rfl (by k_is) rfl rfl rfl
  case c5 => decide
  case kB => exact locs rfl
  case c2 => exact rfl
  case c3 => exact rfl
  case c4 => exact rfl
  intro g' L' h' FG' F' N' B' X' T'
  (try dsimp only)
  k_fold
  k_steps
  exact ret _ _ _ _ _ (by k_asm) (news_sub (by k_asm) (by ((repeat refine sub_cons (by k_mem) ?_); (repeat first | exact sub_self | exact sub_nil | refine sub_up ?_))))
theorem sfull_spec {σ : Sd} {β : Bd} {y e d : Addr} {b : Array UInt8} {rest : List (Addr × Obj)} {bl bits : Int} {u1 u2 t : Tok} {pos : Nat} (hd : dp + 18 < recursionLimit) (hu : un + 180 < cLine) (hp : pos ≤ 1000000000) (hz : b.size ≤ 16777216)
    {l l1 l2 l3 l4 : List (Addr × Obj)} (N0 : News h₀ L s.heap l) (P1 : Pick (y, instObj 1075 e) l l1) (P2 : Pick (e, sdict w σ (bl) u1 (bits) u2) l1 l2) (P3 : Pick (σ.io, instObj 350 d) l2 l3) (P4 : Pick (d, bdict w β ((pos : Int)) t) l3 l4) (P5 : Pick (β.ba, baObj b) l4 rest) (ap : Ap y e σ.io d β.ba rest)
    (ret : ∀ h' tk t1 t2 t3 t4, Fr h₀ L h' m → News h₀ L h' ((y, instObj 1075 e) :: (e, sdict w σ (0) t1 (0) t2) :: (σ.io, instObj 350 d) :: (d, bdict w β ((rdP b.size pos b.size : Nat)) t3) :: (β.ba, baObj b) :: rest) → Q (.bytes (rdB b pos b.size) t4) { s with heap := h', toks := tk }) :
    wpAny (model prog w) (ktrTop dp un gd cn cs L a ccd cl outer) (call (.ref 794) [.ref y]) Q E s := by
  (obtain ⟨ap1, ap2, ap3, ap4, ap5, ap6, ap7, ap8, ap9⟩ := ap); (replace ap1 := neN ap1); (replace ap2 := neN ap2); (replace ap3 := neN ap3); (replace ap4 := neN ap4); (replace ap5 := neN ap5); (replace ap6 := neN ap6); (replace ap7 := neN ap7)
  have N := news_sub N0 (P1.cons (P2.cons (P3.cons (P4.cons (P5.cons sub_self))))); clear N0 P1 P2 P3 P4 P5
  refine wpAny_call ?_
  refine' code_def (binds := [(Str.ofString "self", Value.ref y)]) ?k1 ?k2 ?k3 ?k4 ?k5 ?kA ?kF ?kK ?k6 ?k7 ?k8 ?k9 ?kB ?_ ?c2 ?c3 ?c4 ?c5
  case kA => exact rfl
  case kF => exact rfl
  case kK => assumption
  case k1 => k_asm
  case k2 => k_asm
  case k3 => k_asm
  case k4 => k_asm
  case k5 => k_asm
  case k6 => k_dflt k_is
  case k7 => k_dflt k_is
  case k8 => ktr_room
  case k9 => first | exact BindsTo.of_eq rfl | exact binds_K (by k_in) rfl (by k_is) rfl rfl rfl
  case c5 => decide
  case kB => exact locs rfl
  case c2 => exact rfl
  case c3 => exact rfl
  case c4 => exact rfl
  intro g' L' h' FG' F' N' B' X' T'
  (try dsimp only)
  k_fold
  k_steps
  exact ret _ _ _ _ _ _ (by k_asm) (news_sub (by k_asm) (by ((repeat refine sub_cons (by k_mem) ?_); (repeat first | exact sub_self | exact sub_nil | refine sub_up ?_))))
theorem bytes_ok {σ : Sd} {β : Bd} {y e d : Addr} {b : Array UInt8} {rest : List (Addr × Obj)} {bl bits : Int} {u1 u2 t tn : Tok} {pos n : Nat} (hd : dp + 8 < recursionLimit) (hu : un + 80 < cLine) (hp : pos ≤ 1000000000) (hz : b.size ≤ 16777216) (hn : n ≤ 100000) (hin : (rdB b pos n).size = n)
    {l l1 l2 l3 l4 : List (Addr × Obj)} (N0 : News h₀ L s.heap l) (P1 : Pick (y, instObj 1075 e) l l1) (P2 : Pick (e, sdict w σ (bl) u1 (bits) u2) l1 l2) (P3 : Pick (σ.io, instObj 350 d) l2 l3) (P4 : Pick (d, bdict w β ((pos : Int)) t) l3 l4) (P5 : Pick (β.ba, baObj b) l4 rest) (ap : Ap y e σ.io d β.ba rest)
    (ret : ∀ h' tk t1 t2, Fr h₀ L h' m → News h₀ L h' ((y, instObj 1075 e) :: (e, sdict w σ (bl) u1 (bits) u2) :: (σ.io, instObj 350 d) :: (d, bdict w β ((rdP b.size pos n : Nat)) t1) :: (β.ba, baObj b) :: rest) → Q (.bytes (rdB b pos n) t2) { s with heap := h', toks := tk }) :
    wpAny (model prog w) (ktrTop dp un gd cn cs L a ccd cl outer) (call (.ref 787) [.ref y, .int (n : Int) tn]) Q E s := by
  (obtain ⟨ap1, ap2, ap3, ap4, ap5, ap6, ap7, ap8, ap9⟩ := ap); (replace ap1 := neN ap1); (replace ap2 := neN ap2); (replace ap3 := neN ap3); (replace ap4 := neN ap4); (replace ap5 := neN ap5); (replace ap6 := neN ap6); (replace ap7 := neN ap7)
  have N := news_sub N0 (P1.cons (P2.cons (P3.cons (P4.cons (P5.cons sub_self))))); clear N0 P1 P2 P3 P4 P5
  refine wpAny_call ?_
  refine' code_def (binds := [(Str.ofString "self", Value.ref y), (Str.ofString "n", Value.int (n : Int) tn)]) ?k1 ?k2 ?k3 ?k4 ?k5 ?kA ?kF ?kK ?k6 ?k7 ?k8 ?k9 ?kB ?_ ?c2 ?c3 ?c4 ?c5
  case kA => exact rfl
  case kF => exact rfl
  case kK => assumption
  case k1 => k_asm
  case k2 => k_asm
  case k3 => k_asm
  case k4 => k_asm
  case k5 => k_asm
  case k6 => k_dflt k_is
  case k7 => k_dflt k_is
  case k8 => ktr_room
  case k9 => first | exact BindsTo.of_eq rfl | exact binds_K (by k_in) rfl (by k_is) rfl rfl rfl
  case c5 => decide
  case kB => exact locs rfl
  case c2 => exact rfl
  case c3 => exact rfl
  case c4 => exact rfl
  intro g' L' h' FG' F' N' B' X' T'
  (try dsimp only)
  k_fold
  have hin2 : ((rdB b pos n).size : Int) = n := by omega
  k_steps
  exact ret _ _ _ _ (by k_asm) (news_sub (by k_asm) (by ((repeat refine sub_cons (by k_mem) ?_); (repeat first | exact sub_self | exact sub_nil | refine sub_up ?_))))
theorem bytes_okI {σ : Sd} {β : Bd} {y e d : Addr} {b : Array UInt8} {rest : List (Addr × Obj)} {bl bits nI : Int} {u1 u2 t tn : Tok} {pos n : Nat} (hd : dp + 8 < recursionLimit) (hu : un + 80 < cLine) (hp : pos ≤ 1000000000) (hz : b.size ≤ 16777216) (hnI : (n : Int) = nI) (hn : n ≤ 100000) (hin : (rdB b pos n).size = n)
    {l l1 l2 l3 l4 : List (Addr × Obj)} (N0 : News h₀ L s.heap l) (P1 : Pick (y, instObj 1075 e) l l1) (P2 : Pick (e, sdict w σ (bl) u1 (bits) u2) l1 l2) (P3 : Pick (σ.io, instObj 350 d) l2 l3) (P4 : Pick (d, bdict w β ((pos : Int)) t) l3 l4) (P5 : Pick (β.ba, baObj b) l4 rest) (ap : Ap y e σ.io d β.ba rest)
    (ret : ∀ h' tk t1 t2, Fr h₀ L h' m → News h₀ L h' ((y, instObj 1075 e) :: (e, sdict w σ (bl) u1 (bits) u2) :: (σ.io, instObj 350 d) :: (d, bdict w β ((rdP b.size pos n : Nat)) t1) :: (β.ba, baObj b) :: rest) → Q (.bytes (rdB b pos n) t2) { s with heap := h', toks := tk }) :
    wpAny (model prog w) (ktrTop dp un gd cn cs L a ccd cl outer) (call (.ref 787) [.ref y, .int nI tn]) Q E s := by
  subst hnI
  exact bytes_ok B F X T hk hd hu hp hz hn hin N0 P1 P2 P3 P4 P5 ap ret
end
end Mine
end
section
open PySem PySem.W PySem.Calls PyProof.Rows PySem.Spec
set_option maxRecDepth 100000
set_option maxHeartbeats 8000000
namespace Mine
theorem resetStr2 {M : Model} {A : Around} {env : Env} {x : Str} {v : Value} {Q : Unit → Shared → Prop} {E : Value → Shared → Prop} {s : Shared} (h : wpAny M A (storeName env x v) Q E s) : wpAny M A (storeName env x v) Q E s := by
  w_top off
  k_with_none
  first
    | (walk1; fail)
    | exact h
local macro_rules | `(tactic| k_upd) => `(tactic| first | exact Pick.head | (refine' Pick.tail ?pp; (case pp => k_upd)))
local macro_rules | `(tactic| k_all) => `(tactic| assumption)
local macro_rules | `(tactic| k_room) => `(tactic| ktr_room)
local macro_rules | `(tactic| walk_at "call type:type") => `(tactic| refine call_type_of (PySem.W.typeIs_bytes _ _ _) (by decide +kernel) ?_)
local macro_rules | `(tactic| walk_at "call builtin:len") => `(tactic| (k_here; (with_reducible show wpAny _ _ (call (Value.builtin "len") [Value.ref _]) _ _ _); k_dflt (refine' len_baN ?N ?m ?z ?_; (case N => k_asm); (case m => k_mem); (case z => (first | assumption | exact Nat.le_trans (KBc.size_picked_le _ _ _) (by assumption))); k_whole); intro _ _))
local macro_rules | `(tactic| walk_at "call type:bytes") => `(tactic| (k_here; (with_reducible show wpAny _ _ (call (Value.type "bytes") [Value.ref _]) _ _ _); k_dflt (refine' bytes_baN ?N ?m ?z ?_; (case N => k_asm); (case m => k_mem); (case z => (first | assumption | exact Nat.le_trans (KBc.size_picked_le _ _ _) (by assumption))); k_whole); intro _ _))
local macro_rules | `(tactic| walk_at "subscriptTail") => `(tactic| (k_here; (with_reducible show wpAny _ _ (subscriptTail _ (Expr.Slice _ _ none _) (Value.ref _) (Value.ref _)) _ _ _); (with_reducible rename Fr _ _ _ _ => F'); (with_reducible rename News _ _ _ _ => N'); (refine cut_baN (s := ⟨_, _, _, _, _⟩) F' N' (by k_mem) (by constructor) (by constructor) (by (first | assumption | exact Nat.le_trans (KBc.size_picked_le _ _ _) (by assumption))) ?_); intro _ _ _ _ _))
local macro_rules | `(tactic| walk_at "call builtin:len") => `(tactic| (k_here; (with_reducible show wpAny _ _ (call (Value.builtin "len") [Value.bytes (rdB _ _ _) _]) _ _ _); refine len_bytes (Nat.le_trans rdB_le (by omega)) ?_))
local macro_rules | `(tactic| walk_at "call builtin:_struct.unpack") => `(tactic| (k_here; k_dflt (refine' unpackBN ?F ?N ?hb ?_; (case F => k_asm); (case N => k_asm); (case hb => assumption); k_whole); intro _ _ _ _ F' N' l1; (try k_lt l1)))
local macro_rules | `(tactic| walk_at "call type:enumerate") => `(tactic| (k_here; (with_reducible show wpAny _ _ (call (Value.type _) [Value.bytes _ _]) _ _ _); k_dflt (refine' call_enumB rfl ?hk ?F ?N ?_; (case hk => assumption); (case F => k_asm); (case N => k_asm); k_whole); intro _ _ F' N' S'))
local macro_rules | `(tactic| walk_at "pyReprObj bytes") => `(tactic| (k_here; (refine repr_bytes (by first | assumption | exact Nat.le_trans rdB_le (by omega)) (by first | assumption | exact literal_le (by first | omega | exact Nat.le_trans rdB_le (by omega))) ?_)))
section
variable {w : World} {p : Program} {loose : List Str} {mean : ExcName → Option Value} {mg mb : Str → Option Value} {dp un : Nat} {gd : Option (List Code)} {cn : Str} {cs : Scope} {a : Addr} {ccd : Value} {cl : List (Str × Addr)} {outer : List Env} {A₀ : Around} {base h₀ : Heap} {L : Addr} {m : Str → Option Value} {s : Shared} {Q E : Value → Shared → Prop}
variable (B : Below A₀ base outer h₀) (F : Fr h₀ L s.heap m) (X : (K w.params).In h₀) (T : Top p loose mean mg mb h₀) (hk : cs.kind = .function)
include B F X T hk
local macro_rules | `(tactic| walk_at "call ref") => `(tactic| (k_here; k_dflt (first
  | ((with_reducible show wpAny _ _ (call (Value.ref 689) _) _ _ _); refine' pos_spec ?B ?F ?X ?T ?hk ?hd ?hu ?N0 ?P1 ?P2 ?P3 ?P4 ?P5 ?ap ?_; (case F => k_asm); (case X => k_asm); (case T => k_asm); (case B => k_asm); (case hk => (first | assumption | rfl)); (case N0 => k_asm); (case P1 => k_upd); (case P2 => k_upd); (case P3 => k_upd); (case P4 => k_upd); (case P5 => k_upd); (case ap => (exact Ap.mk (by (first | assumption | k_ne)) (by (first | assumption | k_ne)) (by (first | assumption | k_ne)) (by (first | assumption | k_ne)) (by (first | assumption | k_ne)) (by (first | assumption | k_ne)) (by (first | assumption | k_ne)) (by k_all) (by k_all))); (case hd => (first | omega | ((try simp only [depth_deeper, units_deeper, depth_in1, units_in1]); (try dsimp only [ktrTop]); omega))); (case hu => (first | omega | ((try simp only [depth_deeper, units_deeper, depth_in1, units_in1]); (try dsimp only [ktrTop]); omega))); k_whole; intro _ _ _ F' N')
  | ((with_reducible show wpAny _ _ (call (Value.ref 682) _) _ _ _); refine' sseek_spec ?B ?F ?X ?T ?hk ?hd ?hu ?h1 ?N0 ?P1 ?P2 ?P3 ?P4 ?P5 ?ap ?_; (case F => k_asm); (case X => k_asm); (case T => k_asm); (case B => k_asm); (case hk => (first | assumption | rfl)); (case N0 => k_asm); (case P1 => k_upd); (case P2 => k_upd); (case P3 => k_upd); (case P4 => k_upd); (case P5 => k_upd); (case ap => (exact Ap.mk (by (first | assumption | k_ne)) (by (first | assumption | k_ne)) (by (first | assumption | k_ne)) (by (first | assumption | k_ne)) (by (first | assumption | k_ne)) (by (first | assumption | k_ne)) (by (first | assumption | k_ne)) (by k_all) (by k_all))); (case hd => (first | omega | ((try simp only [depth_deeper, units_deeper, depth_in1, units_in1]); (try dsimp only [ktrTop]); omega))); (case hu => (first | omega | ((try simp only [depth_deeper, units_deeper, depth_in1, units_in1]); (try dsimp only [ktrTop]); omega))); (case h1 => (first | omega | ((try simp only [depth_deeper, units_deeper, depth_in1, units_in1]); (try dsimp only [ktrTop]); omega))); k_whole; intro _ _ _ _ _ F' N')
  | ((with_reducible show wpAny _ _ (call (Value.ref 794) _) _ _ _); refine' sfull_spec ?B ?F ?X ?T ?hk ?hd ?hu ?hp ?hz ?N0 ?P1 ?P2 ?P3 ?P4 ?P5 ?ap ?_; (case F => k_asm); (case X => k_asm); (case T => k_asm); (case B => k_asm); (case hk => (first | assumption | rfl)); (case N0 => k_asm); (case P1 => k_upd); (case P2 => k_upd); (case P3 => k_upd); (case P4 => k_upd); (case P5 => k_upd); (case ap => (exact Ap.mk (by (first | assumption | k_ne)) (by (first | assumption | k_ne)) (by (first | assumption | k_ne)) (by (first | assumption | k_ne)) (by (first | assumption | k_ne)) (by (first | assumption | k_ne)) (by (first | assumption | k_ne)) (by k_all) (by k_all))); (case hd => (first | omega | ((try simp only [depth_deeper, units_deeper, depth_in1, units_in1]); (try dsimp only [ktrTop]); omega))); (case hu => (first | omega | ((try simp only [depth_deeper, units_deeper, depth_in1, units_in1]); (try dsimp only [ktrTop]); omega))); (case hp => (first | omega | ((try simp only [depth_deeper, units_deeper, depth_in1, units_in1]); (try dsimp only [ktrTop]); omega))); (case hz => assumption); k_whole; intro _ _ _ _ _ _ F' N'))))
theorem tba_spec {σ : Sd} {β : Bd} {y e d : Addr} {b : Array UInt8} {rest : List (Addr × Obj)} {bl bits : Int} {u1 u2 t : Tok} {pos : Nat} (hd : dp + 38 < recursionLimit) (hu : un + 380 < cLine) (hp : pos ≤ 1000000000) (hz : b.size ≤ 16777216)
    {l l1 l2 l3 l4 : List (Addr × Obj)} (N0 : News h₀ L s.heap l) (P1 : Pick (y, instObj 1075 e) l l1) (P2 : Pick (e, sdict w σ (bl) u1 (bits) u2) l1 l2) (P3 : Pick (σ.io, instObj 350 d) l2 l3) (P4 : Pick (d, bdict w β ((pos : Int)) t) l3 l4) (P5 : Pick (β.ba, baObj b) l4 rest) (ap : Ap y e σ.io d β.ba rest)
    (ret : ∀ h' tk t1 t2 t3 t4, Fr h₀ L h' m → News h₀ L h' ((y, instObj 1075 e) :: (e, sdict w σ (0) t1 (0) t2) :: (σ.io, instObj 350 d) :: (d, bdict w β ((pos : Int)) t3) :: (β.ba, baObj b) :: rest) → Q (.bytes b t4) { s with heap := h', toks := tk }) :
    wpAny (model prog w) (ktrTop dp un gd cn cs L a ccd cl outer) (call (.ref 1050) [.ref y]) Q E s := by
  (obtain ⟨ap1, ap2, ap3, ap4, ap5, ap6, ap7, ap8, ap9⟩ := ap); (replace ap1 := neN ap1); (replace ap2 := neN ap2); (replace ap3 := neN ap3); (replace ap4 := neN ap4); (replace ap5 := neN ap5); (replace ap6 := neN ap6); (replace ap7 := neN ap7)
  have N := news_sub N0 (P1.cons (P2.cons (P3.cons (P4.cons (P5.cons sub_self))))); clear N0 P1 P2 P3 P4 P5
  refine wpAny_call ?_
  refine' code_def (binds := [(Str.ofString "self", Value.ref y)]) ?k1 ?k2 ?k3 ?k4 ?k5 ?kA ?kF ?kK ?k6 ?k7 ?k8 ?k9 ?kB ?_ ?c2 ?c3 ?c4 ?c5
  case kA => exact rfl
  case kF => exact rfl
  case kK => assumption
  case k1 => k_asm
  case k2 => k_asm
  case k3 => k_asm
  case k4 => k_asm
  case k5 => k_asm
  case k6 => k_dflt k_is
  case k7 => k_dflt k_is
  case k8 => ktr_room
  case k9 => first | exact BindsTo.of_eq rfl | exact binds_K (by k_in) rfl (by k_is) rfl rfl rfl
  case c5 => decide
  case kB => exact locs rfl
  case c2 => exact rfl
  case c3 => exact rfl
  case c4 => exact rfl
  intro g' L' h' FG' F' N' B' X' T'
  (try dsimp only)
  k_fold
  k_steps
  rw [rdB_all]
  exact ret _ _ _ _ _ _ (by k_asm) (news_sub (by k_asm) (by ((repeat refine sub_cons (by k_mem) ?_); (repeat first | exact sub_self | exact sub_nil | refine sub_up ?_))))
local macro_rules | `(tactic| walk_at "call ref") => `(tactic| (k_here; k_dflt (first
  | ((with_reducible show wpAny _ _ (call (Value.ref 752) _) _ _ _); refine' align_spec ?B ?F ?X ?T ?hk ?hd ?hu ?N0 ?P1 ?P2 ?P3 ?P4 ?P5 ?ap ?_; (case F => k_asm); (case X => k_asm); (case T => k_asm); (case B => k_asm); (case hk => (first | assumption | rfl)); (case N0 => k_asm); (case P1 => k_upd); (case P2 => k_upd); (case P3 => k_upd); (case P4 => k_upd); (case P5 => k_upd); (case ap => (exact Ap.mk (by (first | assumption | k_ne)) (by (first | assumption | k_ne)) (by (first | assumption | k_ne)) (by (first | assumption | k_ne)) (by (first | assumption | k_ne)) (by (first | assumption | k_ne)) (by (first | assumption | k_ne)) (by k_all) (by k_all))); (case hd => (first | omega | ((try simp only [depth_deeper, units_deeper, depth_in1, units_in1]); (try dsimp only [ktrTop]); omega))); (case hu => (first | omega | ((try simp only [depth_deeper, units_deeper, depth_in1, units_in1]); (try dsimp only [ktrTop]); omega))); k_whole; intro _ _ _ _ F' N')
  | ((with_reducible show wpAny _ _ (call (Value.ref 787) _) _ _ _); refine' bytes_ok ?B ?F ?X ?T ?hk ?hd ?hu ?hp ?hz ?hn ?hin ?N0 ?P1 ?P2 ?P3 ?P4 ?P5 ?ap ?_; (case F => k_asm); (case X => k_asm); (case T => k_asm); (case B => k_asm); (case hk => (first | assumption | rfl)); (case N0 => k_asm); (case P1 => k_upd); (case P2 => k_upd); (case P3 => k_upd); (case P4 => k_upd); (case P5 => k_upd); (case ap => (exact Ap.mk (by (first | assumption | k_ne)) (by (first | assumption | k_ne)) (by (first | assumption | k_ne)) (by (first | assumption | k_ne)) (by (first | assumption | k_ne)) (by (first | assumption | k_ne)) (by (first | assumption | k_ne)) (by k_all) (by k_all))); (case hd => (first | omega | ((try simp only [depth_deeper, units_deeper, depth_in1, units_in1]); (try dsimp only [ktrTop]); omega))); (case hu => (first | omega | ((try simp only [depth_deeper, units_deeper, depth_in1, units_in1]); (try dsimp only [ktrTop]); omega))); (case hp => (first | omega | ((try simp only [depth_deeper, units_deeper, depth_in1, units_in1]); (try dsimp only [ktrTop]); omega))); (case hz => assumption); (case hn => (first | omega | ((try simp only [depth_deeper, units_deeper, depth_in1, units_in1]); (try dsimp only [ktrTop]); omega))); (case hin => assumption); k_whole; intro _ _ _ _ F' N'))))
theorem rbytes_ok {σ : Sd} {β : Bd} {y e d : Addr} {b : Array UInt8} {rest : List (Addr × Obj)} {bl bits : Int} {u1 u2 t tn : Tok} {pos n : Nat} (hd : dp + 18 < recursionLimit) (hu : un + 180 < cLine) (hp : pos ≤ 1000000000) (hz : b.size ≤ 16777216) (hn : n ≤ 100000) (hin : (rdB b pos n).size = n)
    {l l1 l2 l3 l4 : List (Addr × Obj)} (N0 : News h₀ L s.heap l) (P1 : Pick (y, instObj 1075 e) l l1) (P2 : Pick (e, sdict w σ (bl) u1 (bits) u2) l1 l2) (P3 : Pick (σ.io, instObj 350 d) l2 l3) (P4 : Pick (d, bdict w β ((pos : Int)) t) l3 l4) (P5 : Pick (β.ba, baObj b) l4 rest) (ap : Ap y e σ.io d β.ba rest)
    (ret : ∀ h' tk t1 t2 t3 t4, Fr h₀ L h' m → News h₀ L h' ((y, instObj 1075 e) :: (e, sdict w σ (0) t1 (0) t2) :: (σ.io, instObj 350 d) :: (d, bdict w β ((rdP b.size pos n : Nat)) t3) :: (β.ba, baObj b) :: rest) → Q (.bytes (rdB b pos n) t4) { s with heap := h', toks := tk }) :
    wpAny (model prog w) (ktrTop dp un gd cn cs L a ccd cl outer) (call (.ref 780) [.ref y, .int (n : Int) tn]) Q E s := by
  (obtain ⟨ap1, ap2, ap3, ap4, ap5, ap6, ap7, ap8, ap9⟩ := ap); (replace ap1 := neN ap1); (replace ap2 := neN ap2); (replace ap3 := neN ap3); (replace ap4 := neN ap4); (replace ap5 := neN ap5); (replace ap6 := neN ap6); (replace ap7 := neN ap7)
  have N := news_sub N0 (P1.cons (P2.cons (P3.cons (P4.cons (P5.cons sub_self))))); clear N0 P1 P2 P3 P4 P5
  refine wpAny_call ?_
  refine' code_def (binds := [(Str.ofString "self", Value.ref y), (Str.ofString "n", Value.int (n : Int) tn)]) ?k1 ?k2 ?k3 ?k4 ?k5 ?kA ?kF ?kK ?k6 ?k7 ?k8 ?k9 ?kB ?_ ?c2 ?c3 ?c4 ?c5
  case kA => exact rfl
  case kF => exact rfl
  case kK => assumption
  case k1 => k_asm
  case k2 => k_asm
  case k3 => k_asm
  case k4 => k_asm
  case k5 => k_asm
  case k6 => k_dflt k_is
  case k7 => k_dflt k_is
  case k8 => ktr_room
  case k9 => first | exact BindsTo.of_eq rfl | exact binds_K (by k_in) rfl (by k_is) rfl rfl rfl
  case c5 => decide
  case kB => exact locs rfl
  case c2 => exact rfl
  case c3 => exact rfl
  case c4 => exact rfl
  intro g' L' h' FG' F' N' B' X' T'
  (try dsimp only)
  k_fold
  k_steps
  exact ret _ _ _ _ _ _ (by k_asm) (news_sub (by k_asm) (by ((repeat refine sub_cons (by k_mem) ?_); (repeat first | exact sub_self | exact sub_nil | refine sub_up ?_))))
local macro_rules | `(tactic| walk_at "call ref") => `(tactic| (k_here; k_dflt (first
  | ((with_reducible show wpAny _ _ (call (Value.ref 780) _) _ _ _); refine' rbytes_ok ?B ?F ?X ?T ?hk ?hd ?hu ?hp ?hz ?hn ?hin ?N0 ?P1 ?P2 ?P3 ?P4 ?P5 ?ap ?_; (case F => k_asm); (case X => k_asm); (case T => k_asm); (case B => k_asm); (case hk => (first | assumption | rfl)); (case N0 => k_asm); (case P1 => k_upd); (case P2 => k_upd); (case P3 => k_upd); (case P4 => k_upd); (case P5 => k_upd); (case ap => (exact Ap.mk (by (first | assumption | k_ne)) (by (first | assumption | k_ne)) (by (first | assumption | k_ne)) (by (first | assumption | k_ne)) (by (first | assumption | k_ne)) (by (first | assumption | k_ne)) (by (first | assumption | k_ne)) (by k_all) (by k_all))); (case hd => (first | omega | ((try simp only [depth_deeper, units_deeper, depth_in1, units_in1]); (try dsimp only [ktrTop]); omega))); (case hu => (first | omega | ((try simp only [depth_deeper, units_deeper, depth_in1, units_in1]); (try dsimp only [ktrTop]); omega))); (case hp => (first | omega | ((try simp only [depth_deeper, units_deeper, depth_in1, units_in1]); (try dsimp only [ktrTop]); omega))); (case hz => assumption); (case hn => (first | omega | ((try simp only [depth_deeper, units_deeper, depth_in1, units_in1]); (try dsimp only [ktrTop]); omega))); (case hin => assumption); k_whole; intro _ _ _ _ _ _ F' N'))))
theorem u1_ok {σ : Sd} {β : Bd} {y e d : Addr} {b : Array UInt8} {rest : List (Addr × Obj)} {bl bits : Int} {u1 u2 t : Tok} {pos : Nat} (hd : dp + 38 < recursionLimit) (hu : un + 380 < cLine) (hp : pos ≤ 1000000000) (hz : b.size ≤ 16777216) (hin : (rdB b pos 1).size = 1)
    {l l1 l2 l3 l4 : List (Addr × Obj)} (N0 : News h₀ L s.heap l) (P1 : Pick (y, instObj 1075 e) l l1) (P2 : Pick (e, sdict w σ (bl) u1 (bits) u2) l1 l2) (P3 : Pick (σ.io, instObj 350 d) l2 l3) (P4 : Pick (d, bdict w β ((pos : Int)) t) l3 l4) (P5 : Pick (β.ba, baObj b) l4 rest) (ap : Ap y e σ.io d β.ba rest)
    (ret : ∀ h' tk t1 t2 t3 t4, Fr h₀ L h' m → News h₀ L h' ((y, instObj 1075 e) :: (e, sdict w σ (0) t1 (0) t2) :: (σ.io, instObj 350 d) :: (d, bdict w β ((rdP b.size pos 1 : Nat)) t3) :: (β.ba, baObj b) :: rest) → Q (.int ((PySem.Builtin.Struct.natOf false ((rdB b pos 1).extract 0 1) : Nat) : Int) t4) { s with heap := h', toks := tk }) :
    wpAny (model prog w) (ktrTop dp un gd cn cs L a ccd cl outer) (call (.ref 724) [.ref y]) Q E s := by
  (obtain ⟨ap1, ap2, ap3, ap4, ap5, ap6, ap7, ap8, ap9⟩ := ap); (replace ap1 := neN ap1); (replace ap2 := neN ap2); (replace ap3 := neN ap3); (replace ap4 := neN ap4); (replace ap5 := neN ap5); (replace ap6 := neN ap6); (replace ap7 := neN ap7)
  have N := news_sub N0 (P1.cons (P2.cons (P3.cons (P4.cons (P5.cons sub_self))))); clear N0 P1 P2 P3 P4 P5
  refine wpAny_call ?_
  refine' code_def (binds := [(Str.ofString "self", Value.ref y)]) ?k1 ?k2 ?k3 ?k4 ?k5 ?kA ?kF ?kK ?k6 ?k7 ?k8 ?k9 ?kB ?_ ?c2 ?c3 ?c4 ?c5
  case kA => exact rfl
  case kF => exact rfl
  case kK => assumption
  case k1 => k_asm
  case k2 => k_asm
  case k3 => k_asm
  case k4 => k_asm
  case k5 => k_asm
  case k6 => k_dflt k_is
  case k7 => k_dflt k_is
  case k8 => ktr_room
  case k9 => first | exact BindsTo.of_eq rfl | exact binds_K (by k_in) rfl (by k_is) rfl rfl rfl
  case c5 => decide
  case kB => exact locs rfl
  case c2 => exact rfl
  case c3 => exact rfl
  case c4 => exact rfl
  intro g' L' h' FG' F' N' B' X' T'
  (try dsimp only)
  k_fold
  k_steps
  exact ret _ _ _ _ _ _ (by k_asm) (news_sub (by k_asm) (by ((repeat refine sub_cons (by k_mem) ?_); (repeat first | exact sub_self | exact sub_nil | refine sub_up ?_))))
end
end Mine
end
section
open PySem PySem.W PySem.Calls PyProof.Rows PySem.Spec
set_option maxRecDepth 100000
set_option maxHeartbeats 8000000
namespace Mine
theorem resetBit {M : Model} {A : Around} {env : Env} {x : Str} {v : Value} {Q : Unit → Shared → Prop} {E : Value → Shared → Prop} {s : Shared} (h : wpAny M A (storeName env x v) Q E s) : wpAny M A (storeName env x v) Q E s := by
  w_top off
  k_with_none
  first
    | (walk1; fail)
    | exact h
local macro_rules | `(tactic| k_upd) => `(tactic| first | exact Pick.head | (refine' Pick.tail ?pp; (case pp => k_upd)))
local macro_rules | `(tactic| k_all) => `(tactic| assumption)
local macro_rules | `(tactic| k_room) => `(tactic| ktr_room)
local macro_rules | `(tactic| walk_at "call type:type") => `(tactic| refine call_type_of (PySem.W.typeIs_bytes _ _ _) (by decide +kernel) ?_)
local macro_rules | `(tactic| walk_at "call builtin:len") => `(tactic| (k_here; (with_reducible show wpAny _ _ (call (Value.builtin "len") [Value.ref _]) _ _ _); k_dflt (refine' len_baN ?N ?m ?z ?_; (case N => k_asm); (case m => k_mem); (case z => (first | assumption | exact Nat.le_trans (KBc.size_picked_le _ _ _) (by assumption))); k_whole); intro _ _))
local macro_rules | `(tactic| walk_at "call type:bytes") => `(tactic| (k_here; (with_reducible show wpAny _ _ (call (Value.type "bytes") [Value.ref _]) _ _ _); k_dflt (refine' bytes_baN ?N ?m ?z ?_; (case N => k_asm); (case m => k_mem); (case z => (first | assumption | exact Nat.le_trans (KBc.size_picked_le _ _ _) (by assumption))); k_whole); intro _ _))
local macro_rules | `(tactic| walk_at "subscriptTail") => `(tactic| (k_here; (with_reducible show wpAny _ _ (subscriptTail _ (Expr.Slice _ _ none _) (Value.ref _) (Value.ref _)) _ _ _); (with_reducible rename Fr _ _ _ _ => F'); (with_reducible rename News _ _ _ _ => N'); (refine cut_baN (s := ⟨_, _, _, _, _⟩) F' N' (by k_mem) (by constructor) (by constructor) (by (first | assumption | exact Nat.le_trans (KBc.size_picked_le _ _ _) (by assumption))) ?_); intro _ _ _ _ _))
local macro_rules | `(tactic| walk_at "call builtin:len") => `(tactic| (k_here; (with_reducible show wpAny _ _ (call (Value.builtin "len") [Value.bytes (rdB _ _ _) _]) _ _ _); refine len_bytes (Nat.le_trans rdB_le (by omega)) ?_))
local macro_rules | `(tactic| walk_at "call builtin:_struct.unpack") => `(tactic| (k_here; k_dflt (refine' unpackBN ?F ?N ?hb ?_; (case F => k_asm); (case N => k_asm); (case hb => assumption); k_whole); intro _ _ _ _ F' N' l1; (try k_lt l1)))
local macro_rules | `(tactic| walk_at "call type:enumerate") => `(tactic| (k_here; (with_reducible show wpAny _ _ (call (Value.type _) [Value.bytes _ _]) _ _ _); k_dflt (refine' call_enumB rfl ?hk ?F ?N ?_; (case hk => assumption); (case F => k_asm); (case N => k_asm); k_whole); intro _ _ F' N' S'))
local macro_rules | `(tactic| walk_at "pyReprObj bytes") => `(tactic| (k_here; (refine repr_bytes (by first | assumption | exact Nat.le_trans rdB_le (by omega)) (by first | assumption | exact literal_le (by first | omega | exact Nat.le_trans rdB_le (by omega))) ?_)))
local macro_rules | `(tactic| walk_at "call ref") => `(tactic| (k_here; k_dflt (first
  | ((with_reducible show wpAny _ _ (call (Value.ref 250) _) _ _ _); refine' tell_pk ?B ?F ?X ?T ?hk ?hd ?hu ?N ?P1 ?P2 ?_; (case F => k_asm); (case X => k_asm); (case T => k_asm); (case B => k_asm); (case hk => (first | assumption | rfl)); (case N => k_asm); (case hd => (first | omega | ((try simp only [depth_deeper, units_deeper, depth_in1, units_in1]); (try dsimp only [ktrTop]); omega))); (case hu => (first | omega | ((try simp only [depth_deeper, units_deeper, depth_in1, units_in1]); (try dsimp only [ktrTop]); omega))); (case P1 => k_upd); (case P2 => k_upd); k_whole; intro _ _ _ F' N')
  | ((with_reducible show wpAny _ _ (call (Value.ref 258) _) _ _ _); refine' end_pk ?B ?F ?X ?T ?hk ?hd ?hu ?hz ?N ?P1 ?P2 ?P3 ?n1 ?n2 ?n3 ?_; (case F => k_asm); (case X => k_asm); (case T => k_asm); (case B => k_asm); (case hk => (first | assumption | rfl)); (case N => k_asm); (case hd => (first | omega | ((try simp only [depth_deeper, units_deeper, depth_in1, units_in1]); (try dsimp only [ktrTop]); omega))); (case hu => (first | omega | ((try simp only [depth_deeper, units_deeper, depth_in1, units_in1]); (try dsimp only [ktrTop]); omega))); (case hz => assumption); (case P1 => k_upd); (case P2 => k_upd); (case P3 => k_upd); (case n1 => (first | assumption | k_ne)); (case n2 => (first | assumption | k_ne)); (case n3 => k_all); k_whole; intro _ _ _ _ F' N')
  | ((with_reducible show wpAny _ _ (call (Value.ref 258) _) _ _ _); refine' seek_pk ?B ?F ?X ?T ?hk ?hd ?hu ?h0 ?h1 ?N ?P1 ?P2 ?n1 ?n3 ?_; (case F => k_asm); (case X => k_asm); (case T => k_asm); (case B => k_asm); (case hk => (first | assumption | rfl)); (case N => k_asm); (case hd => (first | omega | ((try simp only [depth_deeper, units_deeper, depth_in1, units_in1]); (try dsimp only [ktrTop]); omega))); (case hu => (first | omega | ((try simp only [depth_deeper, units_deeper, depth_in1, units_in1]); (try dsimp only [ktrTop]); omega))); (case h0 => (first | omega | ((try simp only [depth_deeper, units_deeper, depth_in1, units_in1]); (try dsimp only [ktrTop]); omega))); (case h1 => (first | omega | ((try simp only [depth_deeper, units_deeper, depth_in1, units_in1]); (try dsimp only [ktrTop]); omega))); (case P1 => k_upd); (case P2 => k_upd); (case n1 => (first | assumption | k_ne)); (case n3 => k_all); k_whole; intro _ _ _ _ F' N')
  | ((with_reducible show wpAny _ _ (call (Value.ref 274) _) _ _ _); refine' read_pk ?B ?F ?X ?T ?hk ?hd ?hu ?h1 ?hp ?hz ?N ?P1 ?P2 ?P3 ?n1 ?n2 ?n3 ?_; (case F => k_asm); (case X => k_asm); (case T => k_asm); (case B => k_asm); (case hk => (first | assumption | rfl)); (case N => k_asm); (case hd => (first | omega | ((try simp only [depth_deeper, units_deeper, depth_in1, units_in1]); (try dsimp only [ktrTop]); omega))); (case hu => (first | omega | ((try simp only [depth_deeper, units_deeper, depth_in1, units_in1]); (try dsimp only [ktrTop]); omega))); (case h1 => (first | omega | ((try simp only [depth_deeper, units_deeper, depth_in1, units_in1]); (try dsimp only [ktrTop]); omega))); (case hp => (first | omega | ((try simp only [depth_deeper, units_deeper, depth_in1, units_in1]); (try dsimp only [ktrTop]); omega))); (case hz => assumption); (case P1 => k_upd); (case P2 => k_upd); (case P3 => k_upd); (case n1 => (first | assumption | k_ne)); (case n2 => (first | assumption | k_ne)); (case n3 => k_all); k_whole; intro _ _ _ _ F' N')
  | ((with_reducible show wpAny _ _ (call (Value.ref 274) _) _ _ _); refine' full_pk ?B ?F ?X ?T ?hk ?hd ?hu ?hp ?hz ?N ?P1 ?P2 ?P3 ?n1 ?n2 ?n3 ?_; (case F => k_asm); (case X => k_asm); (case T => k_asm); (case B => k_asm); (case hk => (first | assumption | rfl)); (case N => k_asm); (case hd => (first | omega | ((try simp only [depth_deeper, units_deeper, depth_in1, units_in1]); (try dsimp only [ktrTop]); omega))); (case hu => (first | omega | ((try simp only [depth_deeper, units_deeper, depth_in1, units_in1]); (try dsimp only [ktrTop]); omega))); (case hp => (first | omega | ((try simp only [depth_deeper, units_deeper, depth_in1, units_in1]); (try dsimp only [ktrTop]); omega))); (case hz => assumption); (case P1 => k_upd); (case P2 => k_upd); (case P3 => k_upd); (case n1 => (first | assumption | k_ne)); (case n2 => (first | assumption | k_ne)); (case n3 => k_all); k_whole; intro _ _ _ _ F' N'))))
section
variable {w : World} {p : Program} {loose : List Str} {mean : ExcName → Option Value} {mg mb : Str → Option Value} {dp un : Nat} {gd : Option (List Code)} {cn : Str} {cs : Scope} {a : Addr} {ccd : Value} {cl : List (Str × Addr)} {outer : List Env} {A₀ : Around} {base h₀ : Heap} {L : Addr} {m : Str → Option Value} {s : Shared} {Q E : Value → Shared → Prop}
variable (B : Below A₀ base outer h₀) (F : Fr h₀ L s.heap m) (X : (K w.params).In h₀) (T : Top p loose mean mg mb h₀) (hk : cs.kind = .function)
include B F X T hk
local macro_rules | `(tactic| walk_at "binaryOp LShift int int") => `(tactic| (refine lshift_int_small (by first | decide | omega) (by first | decide | omega) (fold_small (by assumption) (by assumption) (by assumption) (by assumption)) ?_))
local macro_rules | `(tactic| walk_at "call ref") => `(tactic| (k_here; k_dflt (first
  | ((with_reducible show wpAny _ _ (call (Value.ref 787) _) _ _ _); refine' bytes_okI ?B ?F ?X ?T ?hk ?hd ?hu ?hp ?hz ?hnI ?hn ?hin ?N0 ?P1 ?P2 ?P3 ?P4 ?P5 ?ap ?_; (case F => k_asm); (case X => k_asm); (case T => k_asm); (case B => k_asm); (case hk => (first | assumption | rfl)); (case N0 => k_asm); (case P1 => k_upd); (case P2 => k_upd); (case P3 => k_upd); (case P4 => k_upd); (case P5 => k_upd); (case ap => (exact Ap.mk (by (first | assumption | k_ne)) (by (first | assumption | k_ne)) (by (first | assumption | k_ne)) (by (first | assumption | k_ne)) (by (first | assumption | k_ne)) (by (first | assumption | k_ne)) (by (first | assumption | k_ne)) (by k_all) (by k_all))); (case hd => (first | omega | ((try simp only [depth_deeper, units_deeper, depth_in1, units_in1]); (try dsimp only [ktrTop]); omega))); (case hu => (first | omega | ((try simp only [depth_deeper, units_deeper, depth_in1, units_in1]); (try dsimp only [ktrTop]); omega))); (case hp => (first | omega | ((try simp only [depth_deeper, units_deeper, depth_in1, units_in1]); (try dsimp only [ktrTop]); omega))); (case hz => assumption); (case hnI => assumption); (case hn => (first | omega | ((try simp only [depth_deeper, units_deeper, depth_in1, units_in1]); (try dsimp only [ktrTop]); omega))); (case hin => assumption); k_whole; intro _ _ _ _ F' N'))))
theorem be_more {σ : Sd} {β : Bd} {y e d : Addr} {b : Array UInt8} {rest : List (Addr × Obj)} {bl bits W : Int} {u1 u2 t tn : Tok} {pos n : Nat} {ks : List Int} (hd : dp + 38 < recursionLimit) (hu : un + 380 < cLine) (hp : pos ≤ 1000000000) (hz : b.size ≤ 16777216)
    (hb0 : 0 ≤ bl) (hb1 : bl < 8) (hv0 : 0 ≤ bits) (hv1 : bits < 256) (hW : W ≤ 18) (hmore : bl < W) (hn : n ≤ 100000) (hnk : (n : Int) = (W - bl - 1).fdiv 8 + 1) (hin : (rdB b pos n).size = n)
    (hks : KBw.bInts (rdB b pos n) = ks) (hkl : ks.length ≤ 7) (hki : ∀ k ∈ ks, 0 ≤ k ∧ k < 256)
    {l l1 l2 l3 l4 : List (Addr × Obj)} (N0 : News h₀ L s.heap l) (P1 : Pick (y, instObj 1075 e) l l1) (P2 : Pick (e, sdict w σ (bl) u1 (bits) u2) l1 l2) (P3 : Pick (σ.io, instObj 350 d) l2 l3) (P4 : Pick (d, bdict w β ((pos : Int)) t) l3 l4) (P5 : Pick (β.ba, baObj b) l4 rest) (ap : Ap y e σ.io d β.ba rest)
    (ret : ∀ h' tk t1 t2 t3 t4, Fr h₀ L h' m → News h₀ L h' ((y, instObj 1075 e) :: (e, sdict w σ ((-(W - bl)).fmod 8) t1 (PySem.Builtin.bitAnd (ks.foldl (fun a k => a * 256 + k) 0) (1 * 2 ^ ((-(W - bl)).fmod 8).toNat - 1)) t2) :: (σ.io, instObj 350 d) :: (d, bdict w β ((rdP b.size pos n : Nat)) t3) :: (β.ba, baObj b) :: rest) → Q (.int (PySem.Builtin.bitOr ((ks.foldl (fun a k => a * 256 + k) 0).fdiv (2 ^ ((-(W - bl)).fmod 8).toNat)) (bits * 2 ^ (W - bl).toNat)) t4) { s with heap := h', toks := tk }) :
    wpAny (model prog w) (ktrTop dp un gd cn cs L a ccd cl outer) (call (.ref 759) [.ref y, .int W tn]) Q E s := by
  (obtain ⟨ap1, ap2, ap3, ap4, ap5, ap6, ap7, ap8, ap9⟩ := ap); (replace ap1 := neN ap1); (replace ap2 := neN ap2); (replace ap3 := neN ap3); (replace ap4 := neN ap4); (replace ap5 := neN ap5); (replace ap6 := neN ap6); (replace ap7 := neN ap7)
  have N := news_sub N0 (P1.cons (P2.cons (P3.cons (P4.cons (P5.cons sub_self))))); clear N0 P1 P2 P3 P4 P5
  refine wpAny_call ?_
  refine' code_def (binds := [(Str.ofString "self", Value.ref y), (Str.ofString "n", Value.int W tn)]) ?k1 ?k2 ?k3 ?k4 ?k5 ?kA ?kF ?kK ?k6 ?k7 ?k8 ?k9 ?kB ?_ ?c2 ?c3 ?c4 ?c5
  case kA => exact rfl
  case kF => exact rfl
  case kK => assumption
  case k1 => k_asm
  case k2 => k_asm
  case k3 => k_asm
  case k4 => k_asm
  case k5 => k_asm
  case k6 => k_dflt k_is
  case k7 => k_dflt k_is
  case k8 => ktr_room
  case k9 => first | exact BindsTo.of_eq rfl | exact binds_K (by k_in) rfl (by k_is) rfl rfl rfl
  case c5 => decide
  case kB => exact locs rfl
  case c2 => exact rfl
  case c3 => exact rfl
  case c4 => exact rfl
  intro g' L' h' FG' F' N' B' X' T'
  (try dsimp only)
  k_fold
  k_with "pyIter bytes" => k_state (fun pre res => 0 ≤ res ∧ res = pre.foldl (fun a k => a * 256 + k) 0) "res"
  k_with "state" => (first | exact ⟨by decide, rfl⟩ | exact fold_turn (by assumption) (by assumption) (by assumption) | exact fold_turn ⟨by assumption, by assumption⟩ (by assumption) (by assumption))
  k_steps
  rename (_ : Int) = List.foldl _ _ ks => hF
  subst hF
  exact ret _ _ _ _ _ _ (by k_asm) (news_sub (by k_asm) (by ((repeat refine sub_cons (by k_mem) ?_); (repeat first | exact sub_self | exact sub_nil | refine sub_up ?_))))
theorem be_less {σ : Sd} {β : Bd} {y e d : Addr} {b : Array UInt8} {rest : List (Addr × Obj)} {bl bits W : Int} {u1 u2 t tn : Tok} {pos : Int} (hd : dp + 38 < recursionLimit) (hu : un + 380 < cLine)
    (hb0 : 0 ≤ bl) (hb1 : bl < 8) (hv0 : 0 ≤ bits) (hv1 : bits < 256) (hW0 : 0 ≤ W) (hless : W ≤ bl)
    {l l1 l2 l3 l4 : List (Addr × Obj)} (N0 : News h₀ L s.heap l) (P1 : Pick (y, instObj 1075 e) l l1) (P2 : Pick (e, sdict w σ (bl) u1 (bits) u2) l1 l2) (P3 : Pick (σ.io, instObj 350 d) l2 l3) (P4 : Pick (d, bdict w β (pos) t) l3 l4) (P5 : Pick (β.ba, baObj b) l4 rest) (ap : Ap y e σ.io d β.ba rest)
    (ret : ∀ h' tk t1 t2 t4, Fr h₀ L h' m → News h₀ L h' ((y, instObj 1075 e) :: (e, sdict w σ ((-(W - bl)).fmod 8) t1 (PySem.Builtin.bitAnd bits (1 * 2 ^ ((-(W - bl)).fmod 8).toNat - 1)) t2) :: (σ.io, instObj 350 d) :: (d, bdict w β (pos) t) :: (β.ba, baObj b) :: rest) → Q (.int (bits.fdiv (2 ^ (-(W - bl)).toNat)) t4) { s with heap := h', toks := tk }) :
    wpAny (model prog w) (ktrTop dp un gd cn cs L a ccd cl outer) (call (.ref 759) [.ref y, .int W tn]) Q E s := by
  (obtain ⟨ap1, ap2, ap3, ap4, ap5, ap6, ap7, ap8, ap9⟩ := ap); (replace ap1 := neN ap1); (replace ap2 := neN ap2); (replace ap3 := neN ap3); (replace ap4 := neN ap4); (replace ap5 := neN ap5); (replace ap6 := neN ap6); (replace ap7 := neN ap7)
  have N := news_sub N0 (P1.cons (P2.cons (P3.cons (P4.cons (P5.cons sub_self))))); clear N0 P1 P2 P3 P4 P5
  refine wpAny_call ?_
  refine' code_def (binds := [(Str.ofString "self", Value.ref y), (Str.ofString "n", Value.int W tn)]) ?k1 ?k2 ?k3 ?k4 ?k5 ?kA ?kF ?kK ?k6 ?k7 ?k8 ?k9 ?kB ?_ ?c2 ?c3 ?c4 ?c5
  case kA => exact rfl
  case kF => exact rfl
  case kK => assumption
  case k1 => k_asm
  case k2 => k_asm
  case k3 => k_asm
  case k4 => k_asm
  case k5 => k_asm
  case k6 => k_dflt k_is
  case k7 => k_dflt k_is
  case k8 => ktr_room
  case k9 => first | exact BindsTo.of_eq rfl | exact binds_K (by k_in) rfl (by k_is) rfl rfl rfl
  case c5 => decide
  case kB => exact locs rfl
  case c2 => exact rfl
  case c3 => exact rfl
  case c4 => exact rfl
  intro g' L' h' FG' F' N' B' X' T'
  (try dsimp only)
  k_fold
  k_steps
  exact ret _ _ _ _ _ (by k_asm) (news_sub (by k_asm) (by ((repeat refine sub_cons (by k_mem) ?_); (repeat first | exact sub_self | exact sub_nil | refine sub_up ?_))))
theorem le_less {σ : Sd} {β : Bd} {y e d : Addr} {b : Array UInt8} {rest : List (Addr × Obj)} {bl bits W : Int} {u1 u2 t tn : Tok} {pos : Int} (hd : dp + 38 < recursionLimit) (hu : un + 380 < cLine)
    (hb0 : 0 ≤ bl) (hb1 : bl < 8) (hv0 : 0 ≤ bits) (hv1 : bits < 256) (hW0 : 0 ≤ W) (hless : W ≤ bl)
    {l l1 l2 l3 l4 : List (Addr × Obj)} (N0 : News h₀ L s.heap l) (P1 : Pick (y, instObj 1075 e) l l1) (P2 : Pick (e, sdict w σ (bl) u1 (bits) u2) l1 l2) (P3 : Pick (σ.io, instObj 350 d) l2 l3) (P4 : Pick (d, bdict w β (pos) t) l3 l4) (P5 : Pick (β.ba, baObj b) l4 rest) (ap : Ap y e σ.io d β.ba rest)
    (ret : ∀ h' tk t1 t2 t4, Fr h₀ L h' m → News h₀ L h' ((y, instObj 1075 e) :: (e, sdict w σ ((-(W - bl)).fmod 8) t1 (bits.fdiv (2 ^ W.toNat)) t2) :: (σ.io, instObj 350 d) :: (d, bdict w β (pos) t) :: (β.ba, baObj b) :: rest) → Q (.int (PySem.Builtin.bitAnd bits (1 * 2 ^ W.toNat - 1)) t4) { s with heap := h', toks := tk }) :
    wpAny (model prog w) (ktrTop dp un gd cn cs L a ccd cl outer) (call (.ref 773) [.ref y, .int W tn]) Q E s := by
  (obtain ⟨ap1, ap2, ap3, ap4, ap5, ap6, ap7, ap8, ap9⟩ := ap); (replace ap1 := neN ap1); (replace ap2 := neN ap2); (replace ap3 := neN ap3); (replace ap4 := neN ap4); (replace ap5 := neN ap5); (replace ap6 := neN ap6); (replace ap7 := neN ap7)
  have N := news_sub N0 (P1.cons (P2.cons (P3.cons (P4.cons (P5.cons sub_self))))); clear N0 P1 P2 P3 P4 P5
  refine wpAny_call ?_
  refine' code_def (binds := [(Str.ofString "self", Value.ref y), (Str.ofString "n", Value.int W tn)]) ?k1 ?k2 ?k3 ?k4 ?k5 ?kA ?kF ?kK ?k6 ?k7 ?k8 ?k9 ?kB ?_ ?c2 ?c3 ?c4 ?c5
  case kA => exact rfl
  case kF => exact rfl
  case kK => assumption
  case k1 => k_asm
  case k2 => k_asm
  case k3 => k_asm
  case k4 => k_asm
  case k5 => k_asm
  case k6 => k_dflt k_is
  case k7 => k_dflt k_is
  case k8 => ktr_room
  case k9 => first | exact BindsTo.of_eq rfl | exact binds_K (by k_in) rfl (by k_is) rfl rfl rfl
  case c5 => decide
  case kB => exact locs rfl
  case c2 => exact rfl
  case c3 => exact rfl
  case c4 => exact rfl
  intro g' L' h' FG' F' N' B' X' T'
  (try dsimp only)
  k_fold
  k_steps
  exact ret _ _ _ _ _ (by k_asm) (news_sub (by k_asm) (by ((repeat refine sub_cons (by k_mem) ?_); (repeat first | exact sub_self | exact sub_nil | refine sub_up ?_))))
end
end Mine
end
section
open PySem PySem.W PySem.Calls PyProof.Rows PySem.Spec
set_option maxRecDepth 100000
set_option maxHeartbeats 8000000
namespace Mine
theorem resetBitL {M : Model} {A : Around} {env : Env} {x : Str} {v : Value} {Q : Unit → Shared → Prop} {E : Value → Shared → Prop} {s : Shared} (h : wpAny M A (storeName env x v) Q E s) : wpAny M A (storeName env x v) Q E s := by
  w_top off
  k_with_none
  first
    | (walk1; fail)
    | exact h
local macro_rules | `(tactic| k_upd) => `(tactic| first | exact Pick.head | (refine' Pick.tail ?pp; (case pp => k_upd)))
local macro_rules | `(tactic| k_all) => `(tactic| assumption)
local macro_rules | `(tactic| k_room) => `(tactic| ktr_room)
local macro_rules | `(tactic| walk_at "call type:type") => `(tactic| refine call_type_of (PySem.W.typeIs_bytes _ _ _) (by decide +kernel) ?_)
local macro_rules | `(tactic| walk_at "call builtin:len") => `(tactic| (k_here; (with_reducible show wpAny _ _ (call (Value.builtin "len") [Value.ref _]) _ _ _); k_dflt (refine' len_baN ?N ?m ?z ?_; (case N => k_asm); (case m => k_mem); (case z => (first | assumption | exact Nat.le_trans (KBc.size_picked_le _ _ _) (by assumption))); k_whole); intro _ _))
local macro_rules | `(tactic| walk_at "call type:bytes") => `(tactic| (k_here; (with_reducible show wpAny _ _ (call (Value.type "bytes") [Value.ref _]) _ _ _); k_dflt (refine' bytes_baN ?N ?m ?z ?_; (case N => k_asm); (case m => k_mem); (case z => (first | assumption | exact Nat.le_trans (KBc.size_picked_le _ _ _) (by assumption))); k_whole); intro _ _))
local macro_rules | `(tactic| walk_at "subscriptTail") => `(tactic| (k_here; (with_reducible show wpAny _ _ (subscriptTail _ (Expr.Slice _ _ none _) (Value.ref _) (Value.ref _)) _ _ _); (with_reducible rename Fr _ _ _ _ => F'); (with_reducible rename News _ _ _ _ => N'); (refine cut_baN (s := ⟨_, _, _, _, _⟩) F' N' (by k_mem) (by constructor) (by constructor) (by (first | assumption | exact Nat.le_trans (KBc.size_picked_le _ _ _) (by assumption))) ?_); intro _ _ _ _ _))
local macro_rules | `(tactic| walk_at "call builtin:len") => `(tactic| (k_here; (with_reducible show wpAny _ _ (call (Value.builtin "len") [Value.bytes (rdB _ _ _) _]) _ _ _); refine len_bytes (Nat.le_trans rdB_le (by omega)) ?_))
local macro_rules | `(tactic| walk_at "call builtin:_struct.unpack") => `(tactic| (k_here; k_dflt (refine' unpackBN ?F ?N ?hb ?_; (case F => k_asm); (case N => k_asm); (case hb => assumption); k_whole); intro _ _ _ _ F' N' l1; (try k_lt l1)))
local macro_rules | `(tactic| walk_at "call type:enumerate") => `(tactic| (k_here; (with_reducible show wpAny _ _ (call (Value.type _) [Value.bytes _ _]) _ _ _); k_dflt (refine' call_enumB rfl ?hk ?F ?N ?_; (case hk => assumption); (case F => k_asm); (case N => k_asm); k_whole); intro _ _ F' N' S'))
local macro_rules | `(tactic| walk_at "pyReprObj bytes") => `(tactic| (k_here; (refine repr_bytes (by first | assumption | exact Nat.le_trans rdB_le (by omega)) (by first | assumption | exact literal_le (by first | omega | exact Nat.le_trans rdB_le (by omega))) ?_)))
local macro_rules | `(tactic| walk_at "call ref") => `(tactic| (k_here; k_dflt (first
  | ((with_reducible show wpAny _ _ (call (Value.ref 250) _) _ _ _); refine' tell_pk ?B ?F ?X ?T ?hk ?hd ?hu ?N ?P1 ?P2 ?_; (case F => k_asm); (case X => k_asm); (case T => k_asm); (case B => k_asm); (case hk => (first | assumption | rfl)); (case N => k_asm); (case hd => (first | omega | ((try simp only [depth_deeper, units_deeper, depth_in1, units_in1]); (try dsimp only [ktrTop]); omega))); (case hu => (first | omega | ((try simp only [depth_deeper, units_deeper, depth_in1, units_in1]); (try dsimp only [ktrTop]); omega))); (case P1 => k_upd); (case P2 => k_upd); k_whole; intro _ _ _ F' N')
  | ((with_reducible show wpAny _ _ (call (Value.ref 258) _) _ _ _); refine' end_pk ?B ?F ?X ?T ?hk ?hd ?hu ?hz ?N ?P1 ?P2 ?P3 ?n1 ?n2 ?n3 ?_; (case F => k_asm); (case X => k_asm); (case T => k_asm); (case B => k_asm); (case hk => (first | assumption | rfl)); (case N => k_asm); (case hd => (first | omega | ((try simp only [depth_deeper, units_deeper, depth_in1, units_in1]); (try dsimp only [ktrTop]); omega))); (case hu => (first | omega | ((try simp only [depth_deeper, units_deeper, depth_in1, units_in1]); (try dsimp only [ktrTop]); omega))); (case hz => assumption); (case P1 => k_upd); (case P2 => k_upd); (case P3 => k_upd); (case n1 => (first | assumption | k_ne)); (case n2 => (first | assumption | k_ne)); (case n3 => k_all); k_whole; intro _ _ _ _ F' N')
  | ((with_reducible show wpAny _ _ (call (Value.ref 258) _) _ _ _); refine' seek_pk ?B ?F ?X ?T ?hk ?hd ?hu ?h0 ?h1 ?N ?P1 ?P2 ?n1 ?n3 ?_; (case F => k_asm); (case X => k_asm); (case T => k_asm); (case B => k_asm); (case hk => (first | assumption | rfl)); (case N => k_asm); (case hd => (first | omega | ((try simp only [depth_deeper, units_deeper, depth_in1, units_in1]); (try dsimp only [ktrTop]); omega))); (case hu => (first | omega | ((try simp only [depth_deeper, units_deeper, depth_in1, units_in1]); (try dsimp only [ktrTop]); omega))); (case h0 => (first | omega | ((try simp only [depth_deeper, units_deeper, depth_in1, units_in1]); (try dsimp only [ktrTop]); omega))); (case h1 => (first | omega | ((try simp only [depth_deeper, units_deeper, depth_in1, units_in1]); (try dsimp only [ktrTop]); omega))); (case P1 => k_upd); (case P2 => k_upd); (case n1 => (first | assumption | k_ne)); (case n3 => k_all); k_whole; intro _ _ _ _ F' N')
  | ((with_reducible show wpAny _ _ (call (Value.ref 274) _) _ _ _); refine' read_pk ?B ?F ?X ?T ?hk ?hd ?hu ?h1 ?hp ?hz ?N ?P1 ?P2 ?P3 ?n1 ?n2 ?n3 ?_; (case F => k_asm); (case X => k_asm); (case T => k_asm); (case B => k_asm); (case hk => (first | assumption | rfl)); (case N => k_asm); (case hd => (first | omega | ((try simp only [depth_deeper, units_deeper, depth_in1, units_in1]); (try dsimp only [ktrTop]); omega))); (case hu => (first | omega | ((try simp only [depth_deeper, units_deeper, depth_in1, units_in1]); (try dsimp only [ktrTop]); omega))); (case h1 => (first | omega | ((try simp only [depth_deeper, units_deeper, depth_in1, units_in1]); (try dsimp only [ktrTop]); omega))); (case hp => (first | omega | ((try simp only [depth_deeper, units_deeper, depth_in1, units_in1]); (try dsimp only [ktrTop]); omega))); (case hz => assumption); (case P1 => k_upd); (case P2 => k_upd); (case P3 => k_upd); (case n1 => (first | assumption | k_ne)); (case n2 => (first | assumption | k_ne)); (case n3 => k_all); k_whole; intro _ _ _ _ F' N')
  | ((with_reducible show wpAny _ _ (call (Value.ref 274) _) _ _ _); refine' full_pk ?B ?F ?X ?T ?hk ?hd ?hu ?hp ?hz ?N ?P1 ?P2 ?P3 ?n1 ?n2 ?n3 ?_; (case F => k_asm); (case X => k_asm); (case T => k_asm); (case B => k_asm); (case hk => (first | assumption | rfl)); (case N => k_asm); (case hd => (first | omega | ((try simp only [depth_deeper, units_deeper, depth_in1, units_in1]); (try dsimp only [ktrTop]); omega))); (case hu => (first | omega | ((try simp only [depth_deeper, units_deeper, depth_in1, units_in1]); (try dsimp only [ktrTop]); omega))); (case hp => (first | omega | ((try simp only [depth_deeper, units_deeper, depth_in1, units_in1]); (try dsimp only [ktrTop]); omega))); (case hz => assumption); (case P1 => k_upd); (case P2 => k_upd); (case P3 => k_upd); (case n1 => (first | assumption | k_ne)); (case n2 => (first | assumption | k_ne)); (case n3 => k_all); k_whole; intro _ _ _ _ F' N'))))
section
variable {w : World} {p : Program} {loose : List Str} {mean : ExcName → Option Value} {mg mb : Str → Option Value} {dp un : Nat} {gd : Option (List Code)} {cn : Str} {cs : Scope} {a : Addr} {ccd : Value} {cl : List (Str × Addr)} {outer : List Env} {A₀ : Around} {base h₀ : Heap} {L : Addr} {m : Str → Option Value} {s : Shared} {Q E : Value → Shared → Prop}
variable (B : Below A₀ base outer h₀) (F : Fr h₀ L s.heap m) (X : (K w.params).In h₀) (T : Top p loose mean mg mb h₀) (hk : cs.kind = .function)
include B F X T hk
local macro_rules | `(tactic| walk_at "binaryOp LShift int int") => `(tactic| (refine lshift_int_small (by omega) (enum_le (by assumption) (by assumption)) (enum_small (by assumption) (by assumption)) ?_))
local macro_rules | `(tactic| walk_at "binaryOp LShift int int") => `(tactic| (refine lshift_int_small (by omega) (by omega) (by assumption) ?_))
local macro_rules | `(tactic| walk_at "call ref") => `(tactic| (k_here; k_dflt (first
  | ((with_reducible show wpAny _ _ (call (Value.ref 787) _) _ _ _); refine' bytes_okI ?B ?F ?X ?T ?hk ?hd ?hu ?hp ?hz ?hnI ?hn ?hin ?N0 ?P1 ?P2 ?P3 ?P4 ?P5 ?ap ?_; (case F => k_asm); (case X => k_asm); (case T => k_asm); (case B => k_asm); (case hk => (first | assumption | rfl)); (case N0 => k_asm); (case P1 => k_upd); (case P2 => k_upd); (case P3 => k_upd); (case P4 => k_upd); (case P5 => k_upd); (case ap => (exact Ap.mk (by (first | assumption | k_ne)) (by (first | assumption | k_ne)) (by (first | assumption | k_ne)) (by (first | assumption | k_ne)) (by (first | assumption | k_ne)) (by (first | assumption | k_ne)) (by (first | assumption | k_ne)) (by k_all) (by k_all))); (case hd => (first | omega | ((try simp only [depth_deeper, units_deeper, depth_in1, units_in1]); (try dsimp only [ktrTop]); omega))); (case hu => (first | omega | ((try simp only [depth_deeper, units_deeper, depth_in1, units_in1]); (try dsimp only [ktrTop]); omega))); (case hp => (first | omega | ((try simp only [depth_deeper, units_deeper, depth_in1, units_in1]); (try dsimp only [ktrTop]); omega))); (case hz => assumption); (case hnI => assumption); (case hn => (first | omega | ((try simp only [depth_deeper, units_deeper, depth_in1, units_in1]); (try dsimp only [ktrTop]); omega))); (case hin => assumption); k_whole; intro _ _ _ _ F' N'))))
theorem le_more {σ : Sd} {β : Bd} {y e d : Addr} {b : Array UInt8} {rest : List (Addr × Obj)} {bl bits W : Int} {u1 u2 t tn : Tok} {pos n : Nat} {ks : List Int} (hd : dp + 38 < recursionLimit) (hu : un + 380 < cLine) (hp : pos ≤ 1000000000) (hz : b.size ≤ 16777216)
    (hb0 : 0 ≤ bl) (hb1 : bl < 8) (hv0 : 0 ≤ bits) (hv1 : bits < 256) (hW : W ≤ 18) (hmore : bl < W) (hn : n ≤ 100000) (hnk : (n : Int) = (W - bl - 1).fdiv 8 + 1) (hin : (rdB b pos n).size = n)
    (hks : KBw.bInts (rdB b pos n) = ks) (hkl : ks.length ≤ 7) (hki : ∀ k ∈ ks, 0 ≤ k ∧ k < 256) (hsm : (leFold ks).natAbs < 2 ^ 64)
    {l l1 l2 l3 l4 : List (Addr × Obj)} (N0 : News h₀ L s.heap l) (P1 : Pick (y, instObj 1075 e) l l1) (P2 : Pick (e, sdict w σ (bl) u1 (bits) u2) l1 l2) (P3 : Pick (σ.io, instObj 350 d) l2 l3) (P4 : Pick (d, bdict w β ((pos : Int)) t) l3 l4) (P5 : Pick (β.ba, baObj b) l4 rest) (ap : Ap y e σ.io d β.ba rest)
    (ret : ∀ h' tk t1 t2 t3 t4, Fr h₀ L h' m → News h₀ L h' ((y, instObj 1075 e) :: (e, sdict w σ ((-(W - bl)).fmod 8) t1 ((leFold ks).fdiv (2 ^ (W - bl).toNat)) t2) :: (σ.io, instObj 350 d) :: (d, bdict w β ((rdP b.size pos n : Nat)) t3) :: (β.ba, baObj b) :: rest) → Q (.int (PySem.Builtin.bitAnd (PySem.Builtin.bitOr (leFold ks * 2 ^ bl.toNat) bits) (1 * 2 ^ W.toNat - 1)) t4) { s with heap := h', toks := tk }) :
    wpAny (model prog w) (ktrTop dp un gd cn cs L a ccd cl outer) (call (.ref 773) [.ref y, .int W tn]) Q E s := by
  (obtain ⟨ap1, ap2, ap3, ap4, ap5, ap6, ap7, ap8, ap9⟩ := ap); (replace ap1 := neN ap1); (replace ap2 := neN ap2); (replace ap3 := neN ap3); (replace ap4 := neN ap4); (replace ap5 := neN ap5); (replace ap6 := neN ap6); (replace ap7 := neN ap7)
  have N := news_sub N0 (P1.cons (P2.cons (P3.cons (P4.cons (P5.cons sub_self))))); clear N0 P1 P2 P3 P4 P5
  refine wpAny_call ?_
  refine' code_def (binds := [(Str.ofString "self", Value.ref y), (Str.ofString "n", Value.int W tn)]) ?k1 ?k2 ?k3 ?k4 ?k5 ?kA ?kF ?kK ?k6 ?k7 ?k8 ?k9 ?kB ?_ ?c2 ?c3 ?c4 ?c5
  case kA => exact rfl
  case kF => exact rfl
  case kK => assumption
  case k1 => k_asm
  case k2 => k_asm
  case k3 => k_asm
  case k4 => k_asm
  case k5 => k_asm
  case k6 => k_dflt k_is
  case k7 => k_dflt k_is
  case k8 => ktr_room
  case k9 => first | exact BindsTo.of_eq rfl | exact binds_K (by k_in) rfl (by k_is) rfl rfl rfl
  case c5 => decide
  case kB => exact locs rfl
  case c2 => exact rfl
  case c3 => exact rfl
  case c4 => exact rfl
  intro g' L' h' FG' F' N' B' X' T'
  (try dsimp only)
  k_fold
  k_steps
  exact ret _ _ _ _ _ _ (by k_asm) (news_sub (by k_asm) (by ((repeat refine sub_cons (by k_mem) ?_); (repeat first | exact sub_self | exact sub_nil | refine sub_up ?_))))
end
end Mine
end
section
open PySem PySem.W PySem.Calls PyProof.Rows PySem.Spec
set_option maxRecDepth 100000
set_option maxHeartbeats 8000000
namespace Mine
theorem resetRb {M : Model} {A : Around} {env : Env} {x : Str} {v : Value} {Q : Unit → Shared → Prop} {E : Value → Shared → Prop} {s : Shared} (h : wpAny M A (storeName env x v) Q E s) : wpAny M A (storeName env x v) Q E s := by
  w_top off
  k_with_none
  first
    | (walk1; fail)
    | exact h
local macro_rules | `(tactic| k_upd) => `(tactic| first | exact Pick.head | (refine' Pick.tail ?pp; (case pp => k_upd)))
local macro_rules | `(tactic| k_all) => `(tactic| assumption)
local macro_rules | `(tactic| k_room) => `(tactic| ktr_room)
local macro_rules | `(tactic| walk_at "call type:type") => `(tactic| refine call_type_of (PySem.W.typeIs_bytes _ _ _) (by decide +kernel) ?_)
local macro_rules | `(tactic| walk_at "call builtin:len") => `(tactic| (k_here; (with_reducible show wpAny _ _ (call (Value.builtin "len") [Value.ref _]) _ _ _); k_dflt (refine' len_baN ?N ?m ?z ?_; (case N => k_asm); (case m => k_mem); (case z => (first | assumption | exact Nat.le_trans (KBc.size_picked_le _ _ _) (by assumption))); k_whole); intro _ _))
local macro_rules | `(tactic| walk_at "call type:bytes") => `(tactic| (k_here; (with_reducible show wpAny _ _ (call (Value.type "bytes") [Value.ref _]) _ _ _); k_dflt (refine' bytes_baN ?N ?m ?z ?_; (case N => k_asm); (case m => k_mem); (case z => (first | assumption | exact Nat.le_trans (KBc.size_picked_le _ _ _) (by assumption))); k_whole); intro _ _))
local macro_rules | `(tactic| walk_at "subscriptTail") => `(tactic| (k_here; (with_reducible show wpAny _ _ (subscriptTail _ (Expr.Slice _ _ none _) (Value.ref _) (Value.ref _)) _ _ _); (with_reducible rename Fr _ _ _ _ => F'); (with_reducible rename News _ _ _ _ => N'); (refine cut_baN (s := ⟨_, _, _, _, _⟩) F' N' (by k_mem) (by constructor) (by constructor) (by (first | assumption | exact Nat.le_trans (KBc.size_picked_le _ _ _) (by assumption))) ?_); intro _ _ _ _ _))
local macro_rules | `(tactic| walk_at "call builtin:len") => `(tactic| (k_here; (with_reducible show wpAny _ _ (call (Value.builtin "len") [Value.bytes (rdB _ _ _) _]) _ _ _); refine len_bytes (Nat.le_trans rdB_le (by omega)) ?_))
local macro_rules | `(tactic| walk_at "call builtin:_struct.unpack") => `(tactic| (k_here; k_dflt (refine' unpackBN ?F ?N ?hb ?_; (case F => k_asm); (case N => k_asm); (case hb => assumption); k_whole); intro _ _ _ _ F' N' l1; (try k_lt l1)))
local macro_rules | `(tactic| walk_at "call type:enumerate") => `(tactic| (k_here; (with_reducible show wpAny _ _ (call (Value.type _) [Value.bytes _ _]) _ _ _); k_dflt (refine' call_enumB rfl ?hk ?F ?N ?_; (case hk => assumption); (case F => k_asm); (case N => k_asm); k_whole); intro _ _ F' N' S'))
local macro_rules | `(tactic| walk_at "pyReprObj bytes") => `(tactic| (k_here; (refine repr_bytes (by first | assumption | exact Nat.le_trans rdB_le (by omega)) (by first | assumption | exact literal_le (by first | omega | exact Nat.le_trans rdB_le (by omega))) ?_)))
local macro_rules | `(tactic| walk_at "call ref") => `(tactic| (k_here; k_dflt (first
  | ((with_reducible show wpAny _ _ (call (Value.ref 250) _) _ _ _); refine' tell_pk ?B ?F ?X ?T ?hk ?hd ?hu ?N ?P1 ?P2 ?_; (case F => k_asm); (case X => k_asm); (case T => k_asm); (case B => k_asm); (case hk => (first | assumption | rfl)); (case N => k_asm); (case hd => (first | omega | ((try simp only [depth_deeper, units_deeper, depth_in1, units_in1]); (try dsimp only [ktrTop]); omega))); (case hu => (first | omega | ((try simp only [depth_deeper, units_deeper, depth_in1, units_in1]); (try dsimp only [ktrTop]); omega))); (case P1 => k_upd); (case P2 => k_upd); k_whole; intro _ _ _ F' N')
  | ((with_reducible show wpAny _ _ (call (Value.ref 258) _) _ _ _); refine' end_pk ?B ?F ?X ?T ?hk ?hd ?hu ?hz ?N ?P1 ?P2 ?P3 ?n1 ?n2 ?n3 ?_; (case F => k_asm); (case X => k_asm); (case T => k_asm); (case B => k_asm); (case hk => (first | assumption | rfl)); (case N => k_asm); (case hd => (first | omega | ((try simp only [depth_deeper, units_deeper, depth_in1, units_in1]); (try dsimp only [ktrTop]); omega))); (case hu => (first | omega | ((try simp only [depth_deeper, units_deeper, depth_in1, units_in1]); (try dsimp only [ktrTop]); omega))); (case hz => assumption); (case P1 => k_upd); (case P2 => k_upd); (case P3 => k_upd); (case n1 => (first | assumption | k_ne)); (case n2 => (first | assumption | k_ne)); (case n3 => k_all); k_whole; intro _ _ _ _ F' N')
  | ((with_reducible show wpAny _ _ (call (Value.ref 258) _) _ _ _); refine' seek_pk ?B ?F ?X ?T ?hk ?hd ?hu ?h0 ?h1 ?N ?P1 ?P2 ?n1 ?n3 ?_; (case F => k_asm); (case X => k_asm); (case T => k_asm); (case B => k_asm); (case hk => (first | assumption | rfl)); (case N => k_asm); (case hd => (first | omega | ((try simp only [depth_deeper, units_deeper, depth_in1, units_in1]); (try dsimp only [ktrTop]); omega))); (case hu => (first | omega | ((try simp only [depth_deeper, units_deeper, depth_in1, units_in1]); (try dsimp only [ktrTop]); omega))); (case h0 => (first | omega | ((try simp only [depth_deeper, units_deeper, depth_in1, units_in1]); (try dsimp only [ktrTop]); omega))); (case h1 => (first | omega | ((try simp only [depth_deeper, units_deeper, depth_in1, units_in1]); (try dsimp only [ktrTop]); omega))); (case P1 => k_upd); (case P2 => k_upd); (case n1 => (first | assumption | k_ne)); (case n3 => k_all); k_whole; intro _ _ _ _ F' N')
  | ((with_reducible show wpAny _ _ (call (Value.ref 274) _) _ _ _); refine' read_pk ?B ?F ?X ?T ?hk ?hd ?hu ?h1 ?hp ?hz ?N ?P1 ?P2 ?P3 ?n1 ?n2 ?n3 ?_; (case F => k_asm); (case X => k_asm); (case T => k_asm); (case B => k_asm); (case hk => (first | assumption | rfl)); (case N => k_asm); (case hd => (first | omega | ((try simp only [depth_deeper, units_deeper, depth_in1, units_in1]); (try dsimp only [ktrTop]); omega))); (case hu => (first | omega | ((try simp only [depth_deeper, units_deeper, depth_in1, units_in1]); (try dsimp only [ktrTop]); omega))); (case h1 => (first | omega | ((try simp only [depth_deeper, units_deeper, depth_in1, units_in1]); (try dsimp only [ktrTop]); omega))); (case hp => (first | omega | ((try simp only [depth_deeper, units_deeper, depth_in1, units_in1]); (try dsimp only [ktrTop]); omega))); (case hz => assumption); (case P1 => k_upd); (case P2 => k_upd); (case P3 => k_upd); (case n1 => (first | assumption | k_ne)); (case n2 => (first | assumption | k_ne)); (case n3 => k_all); k_whole; intro _ _ _ _ F' N')
  | ((with_reducible show wpAny _ _ (call (Value.ref 274) _) _ _ _); refine' full_pk ?B ?F ?X ?T ?hk ?hd ?hu ?hp ?hz ?N ?P1 ?P2 ?P3 ?n1 ?n2 ?n3 ?_; (case F => k_asm); (case X => k_asm); (case T => k_asm); (case B => k_asm); (case hk => (first | assumption | rfl)); (case N => k_asm); (case hd => (first | omega | ((try simp only [depth_deeper, units_deeper, depth_in1, units_in1]); (try dsimp only [ktrTop]); omega))); (case hu => (first | omega | ((try simp only [depth_deeper, units_deeper, depth_in1, units_in1]); (try dsimp only [ktrTop]); omega))); (case hp => (first | omega | ((try simp only [depth_deeper, units_deeper, depth_in1, units_in1]); (try dsimp only [ktrTop]); omega))); (case hz => assumption); (case P1 => k_upd); (case P2 => k_upd); (case P3 => k_upd); (case n1 => (first | assumption | k_ne)); (case n2 => (first | assumption | k_ne)); (case n3 => k_all); k_whole; intro _ _ _ _ F' N'))))
section
variable {w : World} {p : Program} {loose : List Str} {mean : ExcName → Option Value} {mg mb : Str → Option Value} {dp un : Nat} {gd : Option (List Code)} {cn : Str} {cs : Scope} {a : Addr} {ccd : Value} {cl : List (Str × Addr)} {outer : List Env} {A₀ : Around} {base h₀ : Heap} {L : Addr} {m : Str → Option Value} {s : Shared} {Q E : Value → Shared → Prop}
variable (B : Below A₀ base outer h₀) (F : Fr h₀ L s.heap m) (X : (K w.params).In h₀) (T : Top p loose mean mg mb h₀) (hk : cs.kind = .function)
include B F X T hk
local macro_rules | `(tactic| walk_at "call ref") => `(tactic| (k_here; k_dflt (first
  | ((with_reducible show wpAny _ _ (call (Value.ref 759) _) _ _ _); refine' be_more ?B ?F ?X ?T ?hk ?hd ?hu ?hp ?hz ?hb0 ?hb1 ?hv0 ?hv1 ?hW ?hmore ?hn ?hnk ?hin ?hks ?hkl ?hki ?N0 ?P1 ?P2 ?P3 ?P4 ?P5 ?ap ?_; (case F => k_asm); (case X => k_asm); (case T => k_asm); (case B => k_asm); (case hk => (first | assumption | rfl)); (case N0 => k_asm); (case P1 => k_upd); (case P2 => k_upd); (case P3 => k_upd); (case P4 => k_upd); (case P5 => k_upd); (case ap => (exact Ap.mk (by (first | assumption | k_ne)) (by (first | assumption | k_ne)) (by (first | assumption | k_ne)) (by (first | assumption | k_ne)) (by (first | assumption | k_ne)) (by (first | assumption | k_ne)) (by (first | assumption | k_ne)) (by k_all) (by k_all))); (case hd => (first | omega | ((try simp only [depth_deeper, units_deeper, depth_in1, units_in1]); (try dsimp only [ktrTop]); omega))); (case hu => (first | omega | ((try simp only [depth_deeper, units_deeper, depth_in1, units_in1]); (try dsimp only [ktrTop]); omega))); (case hp => (first | omega | ((try simp only [depth_deeper, units_deeper, depth_in1, units_in1]); (try dsimp only [ktrTop]); omega))); (case hz => assumption); (case hb0 => assumption); (case hb1 => assumption); (case hv0 => assumption); (case hv1 => assumption); (case hW => assumption); (case hmore => assumption); (case hn => (first | omega | ((try simp only [depth_deeper, units_deeper, depth_in1, units_in1]); (try dsimp only [ktrTop]); omega))); (case hnk => assumption); (case hin => assumption); (case hks => assumption); (case hkl => assumption); (case hki => assumption); k_whole; intro _ _ _ _ _ _ F' N')
  | ((with_reducible show wpAny _ _ (call (Value.ref 759) _) _ _ _); refine' be_less ?B ?F ?X ?T ?hk ?hd ?hu ?hb0 ?hb1 ?hv0 ?hv1 ?hW0 ?hless ?N0 ?P1 ?P2 ?P3 ?P4 ?P5 ?ap ?_; (case F => k_asm); (case X => k_asm); (case T => k_asm); (case B => k_asm); (case hk => (first | assumption | rfl)); (case N0 => k_asm); (case P1 => k_upd); (case P2 => k_upd); (case P3 => k_upd); (case P4 => k_upd); (case P5 => k_upd); (case ap => (exact Ap.mk (by (first | assumption | k_ne)) (by (first | assumption | k_ne)) (by (first | assumption | k_ne)) (by (first | assumption | k_ne)) (by (first | assumption | k_ne)) (by (first | assumption | k_ne)) (by (first | assumption | k_ne)) (by k_all) (by k_all))); (case hd => (first | omega | ((try simp only [depth_deeper, units_deeper, depth_in1, units_in1]); (try dsimp only [ktrTop]); omega))); (case hu => (first | omega | ((try simp only [depth_deeper, units_deeper, depth_in1, units_in1]); (try dsimp only [ktrTop]); omega))); (case hb0 => assumption); (case hb1 => assumption); (case hv0 => assumption); (case hv1 => assumption); (case hW0 => assumption); (case hless => assumption); k_whole; intro _ _ _ _ _ F' N'))))
theorem rb_more {σ : Sd} {β : Bd} {y e d : Addr} {b : Array UInt8} {rest : List (Addr × Obj)} {bl bits W : Int} {u1 u2 t tn : Tok} {pos n : Nat} {ks : List Int} (hd : dp + 58 < recursionLimit) (hu : un + 580 < cLine) (hp : pos ≤ 1000000000) (hz : b.size ≤ 16777216)
    (hb0 : 0 ≤ bl) (hb1 : bl < 8) (hv0 : 0 ≤ bits) (hv1 : bits < 256) (hW : W ≤ 18) (hmore : bl < W) (hn : n ≤ 100000) (hnk : (n : Int) = (W - bl - 1).fdiv 8 + 1) (hin : (rdB b pos n).size = n)
    (hks : KBw.bInts (rdB b pos n) = ks) (hkl : ks.length ≤ 7) (hki : ∀ k ∈ ks, 0 ≤ k ∧ k < 256)
    {l l1 l2 l3 l4 : List (Addr × Obj)} (N0 : News h₀ L s.heap l) (P1 : Pick (y, instObj 1075 e) l l1) (P2 : Pick (e, sdict w σ (bl) u1 (bits) u2) l1 l2) (P3 : Pick (σ.io, instObj 350 d) l2 l3) (P4 : Pick (d, bdict w β ((pos : Int)) t) l3 l4) (P5 : Pick (β.ba, baObj b) l4 rest) (ap : Ap y e σ.io d β.ba rest)
    (ret : ∀ h' tk t1 t2 t3 t4, Fr h₀ L h' m → News h₀ L h' ((y, instObj 1075 e) :: (e, sdict w σ ((-(W - bl)).fmod 8) t1 (PySem.Builtin.bitAnd (ks.foldl (fun a k => a * 256 + k) 0) (1 * 2 ^ ((-(W - bl)).fmod 8).toNat - 1)) t2) :: (σ.io, instObj 350 d) :: (d, bdict w β ((rdP b.size pos n : Nat)) t3) :: (β.ba, baObj b) :: rest) → Q (.int (PySem.Builtin.bitOr ((ks.foldl (fun a k => a * 256 + k) 0).fdiv (2 ^ ((-(W - bl)).fmod 8).toNat)) (bits * 2 ^ (W - bl).toNat)) t4) { s with heap := h', toks := tk }) :
    wpAny (model prog w) (ktrTop dp un gd cn cs L a ccd cl outer) (call (.ref 766) [.ref y, .int W tn]) Q E s := by
  (obtain ⟨ap1, ap2, ap3, ap4, ap5, ap6, ap7, ap8, ap9⟩ := ap); (replace ap1 := neN ap1); (replace ap2 := neN ap2); (replace ap3 := neN ap3); (replace ap4 := neN ap4); (replace ap5 := neN ap5); (replace ap6 := neN ap6); (replace ap7 := neN ap7)
  have N := news_sub N0 (P1.cons (P2.cons (P3.cons (P4.cons (P5.cons sub_self))))); clear N0 P1 P2 P3 P4 P5
  refine wpAny_call ?_
  refine' code_def (binds := [(Str.ofString "self", Value.ref y), (Str.ofString "n", Value.int W tn)]) ?k1 ?k2 ?k3 ?k4 ?k5 ?kA ?kF ?kK ?k6 ?k7 ?k8 ?k9 ?kB ?_ ?c2 ?c3 ?c4 ?c5
  case kA => exact rfl
  case kF => exact rfl
  case kK => assumption
  case k1 => k_asm
  case k2 => k_asm
  case k3 => k_asm
  case k4 => k_asm
  case k5 => k_asm
  case k6 => k_dflt k_is
  case k7 => k_dflt k_is
  case k8 => ktr_room
  case k9 => first | exact BindsTo.of_eq rfl | exact binds_K (by k_in) rfl (by k_is) rfl rfl rfl
  case c5 => decide
  case kB => exact locs rfl
  case c2 => exact rfl
  case c3 => exact rfl
  case c4 => exact rfl
  intro g' L' h' FG' F' N' B' X' T'
  (try dsimp only)
  k_fold
  k_steps
  exact ret _ _ _ _ _ _ (by k_asm) (news_sub (by k_asm) (by ((repeat refine sub_cons (by k_mem) ?_); (repeat first | exact sub_self | exact sub_nil | refine sub_up ?_))))
theorem rb_less {σ : Sd} {β : Bd} {y e d : Addr} {b : Array UInt8} {rest : List (Addr × Obj)} {bl bits W : Int} {u1 u2 t tn : Tok} {pos : Int} (hd : dp + 58 < recursionLimit) (hu : un + 580 < cLine)
    (hb0 : 0 ≤ bl) (hb1 : bl < 8) (hv0 : 0 ≤ bits) (hv1 : bits < 256) (hW0 : 0 ≤ W) (hless : W ≤ bl)
    {l l1 l2 l3 l4 : List (Addr × Obj)} (N0 : News h₀ L s.heap l) (P1 : Pick (y, instObj 1075 e) l l1) (P2 : Pick (e, sdict w σ (bl) u1 (bits) u2) l1 l2) (P3 : Pick (σ.io, instObj 350 d) l2 l3) (P4 : Pick (d, bdict w β (pos) t) l3 l4) (P5 : Pick (β.ba, baObj b) l4 rest) (ap : Ap y e σ.io d β.ba rest)
    (ret : ∀ h' tk t1 t2 t4, Fr h₀ L h' m → News h₀ L h' ((y, instObj 1075 e) :: (e, sdict w σ ((-(W - bl)).fmod 8) t1 (PySem.Builtin.bitAnd bits (1 * 2 ^ ((-(W - bl)).fmod 8).toNat - 1)) t2) :: (σ.io, instObj 350 d) :: (d, bdict w β (pos) t) :: (β.ba, baObj b) :: rest) → Q (.int (bits.fdiv (2 ^ (-(W - bl)).toNat)) t4) { s with heap := h', toks := tk }) :
    wpAny (model prog w) (ktrTop dp un gd cn cs L a ccd cl outer) (call (.ref 766) [.ref y, .int W tn]) Q E s := by
  (obtain ⟨ap1, ap2, ap3, ap4, ap5, ap6, ap7, ap8, ap9⟩ := ap); (replace ap1 := neN ap1); (replace ap2 := neN ap2); (replace ap3 := neN ap3); (replace ap4 := neN ap4); (replace ap5 := neN ap5); (replace ap6 := neN ap6); (replace ap7 := neN ap7)
  have N := news_sub N0 (P1.cons (P2.cons (P3.cons (P4.cons (P5.cons sub_self))))); clear N0 P1 P2 P3 P4 P5
  refine wpAny_call ?_
  refine' code_def (binds := [(Str.ofString "self", Value.ref y), (Str.ofString "n", Value.int W tn)]) ?k1 ?k2 ?k3 ?k4 ?k5 ?kA ?kF ?kK ?k6 ?k7 ?k8 ?k9 ?kB ?_ ?c2 ?c3 ?c4 ?c5
  case kA => exact rfl
  case kF => exact rfl
  case kK => assumption
  case k1 => k_asm
  case k2 => k_asm
  case k3 => k_asm
  case k4 => k_asm
  case k5 => k_asm
  case k6 => k_dflt k_is
  case k7 => k_dflt k_is
  case k8 => ktr_room
  case k9 => first | exact BindsTo.of_eq rfl | exact binds_K (by k_in) rfl (by k_is) rfl rfl rfl
  case c5 => decide
  case kB => exact locs rfl
  case c2 => exact rfl
  case c3 => exact rfl
  case c4 => exact rfl
  intro g' L' h' FG' F' N' B' X' T'
  (try dsimp only)
  k_fold
  k_steps
  exact ret _ _ _ _ _ (by k_asm) (news_sub (by k_asm) (by ((repeat refine sub_cons (by k_mem) ?_); (repeat first | exact sub_self | exact sub_nil | refine sub_up ?_))))
local macro_rules | `(tactic| walk_at "call ref") => `(tactic| (k_here; k_dflt (first
  | ((with_reducible show wpAny _ _ (call (Value.ref 250) _) _ _ _); refine' tell_pk ?B ?F ?X ?T ?hk ?hd ?hu ?N ?P1 ?P2 ?_; (case F => k_asm); (case X => k_asm); (case T => k_asm); (case B => k_asm); (case hk => (first | assumption | rfl)); (case N => k_asm); (case hd => (first | omega | ((try simp only [depth_deeper, units_deeper, depth_in1, units_in1]); (try dsimp only [ktrTop]); omega))); (case hu => (first | omega | ((try simp only [depth_deeper, units_deeper, depth_in1, units_in1]); (try dsimp only [ktrTop]); omega))); (case P1 => k_upd); (case P2 => k_upd); k_whole; intro _ _ _ F' N')
  | ((with_reducible show wpAny _ _ (call (Value.ref 258) _) _ _ _); refine' end_pk ?B ?F ?X ?T ?hk ?hd ?hu ?hz ?N ?P1 ?P2 ?P3 ?n1 ?n2 ?n3 ?_; (case F => k_asm); (case X => k_asm); (case T => k_asm); (case B => k_asm); (case hk => (first | assumption | rfl)); (case N => k_asm); (case hd => (first | omega | ((try simp only [depth_deeper, units_deeper, depth_in1, units_in1]); (try dsimp only [ktrTop]); omega))); (case hu => (first | omega | ((try simp only [depth_deeper, units_deeper, depth_in1, units_in1]); (try dsimp only [ktrTop]); omega))); (case hz => assumption); (case P1 => k_upd); (case P2 => k_upd); (case P3 => k_upd); (case n1 => (first | assumption | k_ne)); (case n2 => (first | assumption | k_ne)); (case n3 => k_all); k_whole; intro _ _ _ _ F' N')
  | ((with_reducible show wpAny _ _ (call (Value.ref 258) _) _ _ _); refine' seek_pk ?B ?F ?X ?T ?hk ?hd ?hu ?h0 ?h1 ?N ?P1 ?P2 ?n1 ?n3 ?_; (case F => k_asm); (case X => k_asm); (case T => k_asm); (case B => k_asm); (case hk => (first | assumption | rfl)); (case N => k_asm); (case hd => (first | omega | ((try simp only [depth_deeper, units_deeper, depth_in1, units_in1]); (try dsimp only [ktrTop]); omega))); (case hu => (first | omega | ((try simp only [depth_deeper, units_deeper, depth_in1, units_in1]); (try dsimp only [ktrTop]); omega))); (case h0 => (first | omega | ((try simp only [depth_deeper, units_deeper, depth_in1, units_in1]); (try dsimp only [ktrTop]); omega))); (case h1 => (first | omega | ((try simp only [depth_deeper, units_deeper, depth_in1, units_in1]); (try dsimp only [ktrTop]); omega))); (case P1 => k_upd); (case P2 => k_upd); (case n1 => (first | assumption | k_ne)); (case n3 => k_all); k_whole; intro _ _ _ _ F' N')
  | ((with_reducible show wpAny _ _ (call (Value.ref 274) _) _ _ _); refine' read_pk ?B ?F ?X ?T ?hk ?hd ?hu ?h1 ?hp ?hz ?N ?P1 ?P2 ?P3 ?n1 ?n2 ?n3 ?_; (case F => k_asm); (case X => k_asm); (case T => k_asm); (case B => k_asm); (case hk => (first | assumption | rfl)); (case N => k_asm); (case hd => (first | omega | ((try simp only [depth_deeper, units_deeper, depth_in1, units_in1]); (try dsimp only [ktrTop]); omega))); (case hu => (first | omega | ((try simp only [depth_deeper, units_deeper, depth_in1, units_in1]); (try dsimp only [ktrTop]); omega))); (case h1 => (first | omega | ((try simp only [depth_deeper, units_deeper, depth_in1, units_in1]); (try dsimp only [ktrTop]); omega))); (case hp => (first | omega | ((try simp only [depth_deeper, units_deeper, depth_in1, units_in1]); (try dsimp only [ktrTop]); omega))); (case hz => assumption); (case P1 => k_upd); (case P2 => k_upd); (case P3 => k_upd); (case n1 => (first | assumption | k_ne)); (case n2 => (first | assumption | k_ne)); (case n3 => k_all); k_whole; intro _ _ _ _ F' N')
  | ((with_reducible show wpAny _ _ (call (Value.ref 274) _) _ _ _); refine' full_pk ?B ?F ?X ?T ?hk ?hd ?hu ?hp ?hz ?N ?P1 ?P2 ?P3 ?n1 ?n2 ?n3 ?_; (case F => k_asm); (case X => k_asm); (case T => k_asm); (case B => k_asm); (case hk => (first | assumption | rfl)); (case N => k_asm); (case hd => (first | omega | ((try simp only [depth_deeper, units_deeper, depth_in1, units_in1]); (try dsimp only [ktrTop]); omega))); (case hu => (first | omega | ((try simp only [depth_deeper, units_deeper, depth_in1, units_in1]); (try dsimp only [ktrTop]); omega))); (case hp => (first | omega | ((try simp only [depth_deeper, units_deeper, depth_in1, units_in1]); (try dsimp only [ktrTop]); omega))); (case hz => assumption); (case P1 => k_upd); (case P2 => k_upd); (case P3 => k_upd); (case n1 => (first | assumption | k_ne)); (case n2 => (first | assumption | k_ne)); (case n3 => k_all); k_whole; intro _ _ _ _ F' N'))))
theorem ens_ok {σ : Sd} {β : Bd} {y e d : Addr} {b : Array UInt8} {rest : List (Addr × Obj)} {bl bits : Int} {u1 u2 t tn : Tok} {pos : Nat} {x : Array UInt8} (hd : dp + 38 < recursionLimit) (hu : un + 380 < cLine) (hp : pos ≤ 1000000000) (hz : b.size ≤ 16777216) (hx : x.size ≤ 1000) (heq : rdB b pos x.size = x)
    {l l1 l2 l3 l4 : List (Addr × Obj)} (N0 : News h₀ L s.heap l) (P1 : Pick (y, instObj 1075 e) l l1) (P2 : Pick (e, sdict w σ (bl) u1 (bits) u2) l1 l2) (P3 : Pick (σ.io, instObj 350 d) l2 l3) (P4 : Pick (d, bdict w β ((pos : Int)) t) l3 l4) (P5 : Pick (β.ba, baObj b) l4 rest) (ap : Ap y e σ.io d β.ba rest)
    (ret : ∀ h' tk t1 t4, Fr h₀ L h' m → News h₀ L h' ((y, instObj 1075 e) :: (e, sdict w σ (bl) u1 (bits) u2) :: (σ.io, instObj 350 d) :: (d, bdict w β ((rdP b.size pos x.size : Nat)) t1) :: (β.ba, baObj b) :: rest) → Q (.bytes x t4) { s with heap := h', toks := tk }) :
    wpAny (model prog w) (ktrTop dp un gd cn cs L a ccd cl outer) (call (.ref 815) [.ref y, .bytes x tn]) Q E s := by
  (obtain ⟨ap1, ap2, ap3, ap4, ap5, ap6, ap7, ap8, ap9⟩ := ap); (replace ap1 := neN ap1); (replace ap2 := neN ap2); (replace ap3 := neN ap3); (replace ap4 := neN ap4); (replace ap5 := neN ap5); (replace ap6 := neN ap6); (replace ap7 := neN ap7)
  have N := news_sub N0 (P1.cons (P2.cons (P3.cons (P4.cons (P5.cons sub_self))))); clear N0 P1 P2 P3 P4 P5
  refine wpAny_call ?_
  refine' code_def (binds := [(Str.ofString "self", Value.ref y), (Str.ofString "expected", Value.bytes x tn)]) ?k1 ?k2 ?k3 ?k4 ?k5 ?kA ?kF ?kK ?k6 ?k7 ?k8 ?k9 ?kB ?_ ?c2 ?c3 ?c4 ?c5
  case kA => exact rfl
  case kF => exact rfl
  case kK => assumption
  case k1 => k_asm
  case k2 => k_asm
  case k3 => k_asm
  case k4 => k_asm
  case k5 => k_asm
  case k6 => k_dflt k_is
  case k7 => k_dflt k_is
  case k8 => ktr_room
  case k9 => first | exact BindsTo.of_eq rfl | exact binds_K (by k_in) rfl (by k_is) rfl rfl rfl
  case c5 => decide
  case kB => exact locs rfl
  case c2 => exact rfl
  case c3 => exact rfl
  case c4 => exact rfl
  intro g' L' h' FG' F' N' B' X' T'
  (try dsimp only)
  k_fold
  k_steps
  · exfalso
    rename (_ != _) = true => hne
    rw [heq] at hne
    simp at hne
  · rw [heq]
    exact ret _ _ _ _ (by k_asm) (news_sub (by k_asm) (by ((repeat refine sub_cons (by k_mem) ?_); (repeat first | exact sub_self | exact sub_nil | refine sub_up ?_))))
end
end Mine
end
section
open PySem PySem.W PySem.Calls PyProof.Rows PySem.Spec
set_option maxRecDepth 100000
set_option maxHeartbeats 8000000
namespace Mine
theorem resetKst {M : Model} {A : Around} {env : Env} {x : Str} {v : Value} {Q : Unit → Shared → Prop} {E : Value → Shared → Prop} {s : Shared} (h : wpAny M A (storeName env x v) Q E s) : wpAny M A (storeName env x v) Q E s := by
  w_top off
  k_with_none
  first
    | (walk1; fail)
    | exact h
local macro_rules | `(tactic| k_upd) => `(tactic| first | exact Pick.head | (refine' Pick.tail ?pp; (case pp => k_upd)))
local macro_rules | `(tactic| k_all) => `(tactic| assumption)
local macro_rules | `(tactic| k_room) => `(tactic| ktr_room)
local macro_rules | `(tactic| walk_at "call type:type") => `(tactic| refine call_type_of (PySem.W.typeIs_bytes _ _ _) (by decide +kernel) ?_)
local macro_rules | `(tactic| walk_at "call builtin:len") => `(tactic| (k_here; (with_reducible show wpAny _ _ (call (Value.builtin "len") [Value.ref _]) _ _ _); k_dflt (refine' len_baN ?N ?m ?z ?_; (case N => k_asm); (case m => k_mem); (case z => (first | assumption | exact Nat.le_trans (KBc.size_picked_le _ _ _) (by assumption))); k_whole); intro _ _))
local macro_rules | `(tactic| walk_at "call type:bytes") => `(tactic| (k_here; (with_reducible show wpAny _ _ (call (Value.type "bytes") [Value.ref _]) _ _ _); k_dflt (refine' bytes_baN ?N ?m ?z ?_; (case N => k_asm); (case m => k_mem); (case z => (first | assumption | exact Nat.le_trans (KBc.size_picked_le _ _ _) (by assumption))); k_whole); intro _ _))
local macro_rules | `(tactic| walk_at "subscriptTail") => `(tactic| (k_here; (with_reducible show wpAny _ _ (subscriptTail _ (Expr.Slice _ _ none _) (Value.ref _) (Value.ref _)) _ _ _); (with_reducible rename Fr _ _ _ _ => F'); (with_reducible rename News _ _ _ _ => N'); (refine cut_baN (s := ⟨_, _, _, _, _⟩) F' N' (by k_mem) (by constructor) (by constructor) (by (first | assumption | exact Nat.le_trans (KBc.size_picked_le _ _ _) (by assumption))) ?_); intro _ _ _ _ _))
local macro_rules | `(tactic| walk_at "call builtin:len") => `(tactic| (k_here; (with_reducible show wpAny _ _ (call (Value.builtin "len") [Value.bytes (rdB _ _ _) _]) _ _ _); refine len_bytes (Nat.le_trans rdB_le (by omega)) ?_))
local macro_rules | `(tactic| walk_at "call builtin:_struct.unpack") => `(tactic| (k_here; k_dflt (refine' unpackBN ?F ?N ?hb ?_; (case F => k_asm); (case N => k_asm); (case hb => assumption); k_whole); intro _ _ _ _ F' N' l1; (try k_lt l1)))
local macro_rules | `(tactic| walk_at "call type:enumerate") => `(tactic| (k_here; (with_reducible show wpAny _ _ (call (Value.type _) [Value.bytes _ _]) _ _ _); k_dflt (refine' call_enumB rfl ?hk ?F ?N ?_; (case hk => assumption); (case F => k_asm); (case N => k_asm); k_whole); intro _ _ F' N' S'))
local macro_rules | `(tactic| walk_at "pyReprObj bytes") => `(tactic| (k_here; (refine repr_bytes (by first | assumption | exact Nat.le_trans rdB_le (by omega)) (by first | assumption | exact literal_le (by first | omega | exact Nat.le_trans rdB_le (by omega))) ?_)))
theorem units_under_make1 (A : Around) (C : Addr) (vals : List Value) : (A.under (.builtin "type.__call__" ⟨.ref C :: vals, []⟩)).units = A.units + 1 := rfl
local macro_rules | `(tactic| walk_at "call ref") => `(tactic| (k_here; k_dflt (first
  | ((with_reducible show wpAny _ _ (call (Value.ref 250) _) _ _ _); refine' tell_pk ?B ?F ?X ?T ?hk ?hd ?hu ?N ?P1 ?P2 ?_; (case F => k_asm); (case X => k_asm); (case T => k_asm); (case B => k_asm); (case hk => (first | assumption | rfl)); (case N => k_asm); (case hd => (first | omega | ((try simp only [depth_deeper, units_deeper, depth_in1, units_in1, depth_under_make, units_under_make1]); (try dsimp only [ktrTop]); omega))); (case hu => (first | omega | ((try simp only [depth_deeper, units_deeper, depth_in1, units_in1, depth_under_make, units_under_make1]); (try dsimp only [ktrTop]); omega))); (case P1 => k_upd); (case P2 => k_upd); k_whole; intro _ _ _ F' N')
  | ((with_reducible show wpAny _ _ (call (Value.ref 258) _) _ _ _); refine' end_pk ?B ?F ?X ?T ?hk ?hd ?hu ?hz ?N ?P1 ?P2 ?P3 ?n1 ?n2 ?n3 ?_; (case F => k_asm); (case X => k_asm); (case T => k_asm); (case B => k_asm); (case hk => (first | assumption | rfl)); (case N => k_asm); (case hd => (first | omega | ((try simp only [depth_deeper, units_deeper, depth_in1, units_in1, depth_under_make, units_under_make1]); (try dsimp only [ktrTop]); omega))); (case hu => (first | omega | ((try simp only [depth_deeper, units_deeper, depth_in1, units_in1, depth_under_make, units_under_make1]); (try dsimp only [ktrTop]); omega))); (case hz => assumption); (case P1 => k_upd); (case P2 => k_upd); (case P3 => k_upd); (case n1 => (first | assumption | k_ne)); (case n2 => (first | assumption | k_ne)); (case n3 => k_all); k_whole; intro _ _ _ _ F' N')
  | ((with_reducible show wpAny _ _ (call (Value.ref 258) _) _ _ _); refine' seek_pk ?B ?F ?X ?T ?hk ?hd ?hu ?h0 ?h1 ?N ?P1 ?P2 ?n1 ?n3 ?_; (case F => k_asm); (case X => k_asm); (case T => k_asm); (case B => k_asm); (case hk => (first | assumption | rfl)); (case N => k_asm); (case hd => (first | omega | ((try simp only [depth_deeper, units_deeper, depth_in1, units_in1, depth_under_make, units_under_make1]); (try dsimp only [ktrTop]); omega))); (case hu => (first | omega | ((try simp only [depth_deeper, units_deeper, depth_in1, units_in1, depth_under_make, units_under_make1]); (try dsimp only [ktrTop]); omega))); (case h0 => (first | omega | ((try simp only [depth_deeper, units_deeper, depth_in1, units_in1, depth_under_make, units_under_make1]); (try dsimp only [ktrTop]); omega))); (case h1 => (first | omega | ((try simp only [depth_deeper, units_deeper, depth_in1, units_in1, depth_under_make, units_under_make1]); (try dsimp only [ktrTop]); omega))); (case P1 => k_upd); (case P2 => k_upd); (case n1 => (first | assumption | k_ne)); (case n3 => k_all); k_whole; intro _ _ _ _ F' N')
  | ((with_reducible show wpAny _ _ (call (Value.ref 274) _) _ _ _); refine' read_pk ?B ?F ?X ?T ?hk ?hd ?hu ?h1 ?hp ?hz ?N ?P1 ?P2 ?P3 ?n1 ?n2 ?n3 ?_; (case F => k_asm); (case X => k_asm); (case T => k_asm); (case B => k_asm); (case hk => (first | assumption | rfl)); (case N => k_asm); (case hd => (first | omega | ((try simp only [depth_deeper, units_deeper, depth_in1, units_in1, depth_under_make, units_under_make1]); (try dsimp only [ktrTop]); omega))); (case hu => (first | omega | ((try simp only [depth_deeper, units_deeper, depth_in1, units_in1, depth_under_make, units_under_make1]); (try dsimp only [ktrTop]); omega))); (case h1 => (first | omega | ((try simp only [depth_deeper, units_deeper, depth_in1, units_in1, depth_under_make, units_under_make1]); (try dsimp only [ktrTop]); omega))); (case hp => (first | omega | ((try simp only [depth_deeper, units_deeper, depth_in1, units_in1, depth_under_make, units_under_make1]); (try dsimp only [ktrTop]); omega))); (case hz => assumption); (case P1 => k_upd); (case P2 => k_upd); (case P3 => k_upd); (case n1 => (first | assumption | k_ne)); (case n2 => (first | assumption | k_ne)); (case n3 => k_all); k_whole; intro _ _ _ _ F' N')
  | ((with_reducible show wpAny _ _ (call (Value.ref 274) _) _ _ _); refine' full_pk ?B ?F ?X ?T ?hk ?hd ?hu ?hp ?hz ?N ?P1 ?P2 ?P3 ?n1 ?n2 ?n3 ?_; (case F => k_asm); (case X => k_asm); (case T => k_asm); (case B => k_asm); (case hk => (first | assumption | rfl)); (case N => k_asm); (case hd => (first | omega | ((try simp only [depth_deeper, units_deeper, depth_in1, units_in1, depth_under_make, units_under_make1]); (try dsimp only [ktrTop]); omega))); (case hu => (first | omega | ((try simp only [depth_deeper, units_deeper, depth_in1, units_in1, depth_under_make, units_under_make1]); (try dsimp only [ktrTop]); omega))); (case hp => (first | omega | ((try simp only [depth_deeper, units_deeper, depth_in1, units_in1, depth_under_make, units_under_make1]); (try dsimp only [ktrTop]); omega))); (case hz => assumption); (case P1 => k_upd); (case P2 => k_upd); (case P3 => k_upd); (case n1 => (first | assumption | k_ne)); (case n2 => (first | assumption | k_ne)); (case n3 => k_all); k_whole; intro _ _ _ _ F' N'))))
section
variable {w : World} {p : Program} {loose : List Str} {mean : ExcName → Option Value} {mg mb : Str → Option Value} {dp un : Nat} {gd : Option (List Code)} {cn : Str} {cs : Scope} {a : Addr} {ccd : Value} {cl : List (Str × Addr)} {outer : List Env} {A₀ : Around} {base h₀ : Heap} {L : Addr} {m : Str → Option Value} {s : Shared} {Q E : Value → Shared → Prop}
variable (B : Below A₀ base outer h₀) (F : Fr h₀ L s.heap m) (X : (K w.params).In h₀) (T : Top p loose mean mg mb h₀) (hk : cs.kind = .function)
include B F X T hk
theorem kst_new {β : Bd} {x d : Addr} {t : Tok} {b : Array UInt8} {l : List (Addr × Obj)} (hd : dp + 38 < recursionLimit) (hu : un + 380 < cLine) (hz : b.size ≤ 16777216)
    (N : News h₀ L s.heap ((x, instObj 350 d) :: (d, bdict w β 0 t) :: (β.ba, baObj b) :: l)) (n1 : x ≠ d) (n2 : β.ba ≠ d) (hl : ∀ p ∈ l, p.1 ≠ d)
    (ret : ∀ (y e : Addr) (σ : Sd) h' tk t1 t2 t3, σ.io = x → Fr h₀ L h' m → News h₀ L h' ((y, instObj 1075 e) :: (e, sdict w σ 0 t1 0 t2) :: (x, instObj 350 d) :: (d, bdict w β 0 t3) :: (β.ba, baObj b) :: l) → Q (.ref y) { s with heap := h', toks := tk }) :
    wpAny (model prog w) (ktrTop dp un gd cn cs L a ccd cl outer) (call (.ref 1075) [.ref x]) Q E s := by
  replace n1 := neN n1
  replace n2 := neN n2
  (k_dflt (refine' call_cls ?k1 ?k2 ?k3 ?k4 ?k5 ?k6 ?_; (case k1 => k_asm); (case k2 => k_asm); (case k3 => k_asm); (case k4 => k_is); (case k5 => k_is); (case k6 => k_is); k_whole))
  intro x' d' h' F' N' l1 l2
  (try k_lt l1)
  (try k_lt2 l2)
  refine' code_def (binds := [(Str.ofString "self", Value.ref x'), (Str.ofString "io", Value.ref x)]) ?k1 ?k2 ?k3 ?k4 ?k5 ?kA ?kF ?kK ?k6 ?k7 ?k8 ?k9 ?kB ?_ ?c2 ?c3 ?c4 ?c5
  case kA => exact rfl
  case kF => exact rfl
  case kK => assumption
  case k1 => k_asm
  case k2 => k_asm
  case k3 => k_asm
  case k4 => k_asm
  case k5 => k_asm
  case k6 => k_dflt k_is
  case k7 => k_dflt k_is
  case k8 => ktr_room
  case k9 => first | exact BindsTo.of_eq rfl | exact binds_K (by k_in) rfl (by k_is) rfl rfl rfl
  case c5 => decide
  case kB => exact locs rfl
  case c2 => exact rfl
  case c3 => exact rfl
  case c4 => exact rfl
  intro g' L' h' FG' F' N' B' X' T'
  (try dsimp only)
  k_fold
  k_steps
  exact ret _ _ ⟨_, _, _, _, _, _, _, _, _, _, _, _⟩ _ _ _ _ _ rfl (by k_asm) (news_sub (by k_asm) (by ((repeat refine sub_cons (by k_mem) ?_); (repeat first | exact sub_self | exact sub_nil | refine sub_up ?_))))
end
end Mine
end
section
open PySem PySem.W PySem.Calls PyProof.Rows PySem.Spec
set_option maxRecDepth 100000
set_option maxHeartbeats 8000000
namespace Mine
theorem resetFb {M : Model} {A : Around} {env : Env} {x : Str} {v : Value} {Q : Unit → Shared → Prop} {E : Value → Shared → Prop} {s : Shared} (h : wpAny M A (storeName env x v) Q E s) : wpAny M A (storeName env x v) Q E s := by
  w_top off
  k_with_none
  first
    | (walk1; fail)
    | exact h
local macro_rules | `(tactic| k_upd) => `(tactic| first | exact Pick.head | (refine' Pick.tail ?pp; (case pp => k_upd)))
local macro_rules | `(tactic| k_all) => `(tactic| assumption)
local macro_rules | `(tactic| k_room) => `(tactic| ktr_room)
local macro_rules | `(tactic| walk_at "call type:type") => `(tactic| refine call_type_of (PySem.W.typeIs_bytes _ _ _) (by decide +kernel) ?_)
local macro_rules | `(tactic| walk_at "call builtin:len") => `(tactic| (k_here; (with_reducible show wpAny _ _ (call (Value.builtin "len") [Value.ref _]) _ _ _); k_dflt (refine' len_baN ?N ?m ?z ?_; (case N => k_asm); (case m => k_mem); (case z => (first | assumption | exact Nat.le_trans (KBc.size_picked_le _ _ _) (by assumption))); k_whole); intro _ _))
local macro_rules | `(tactic| walk_at "call type:bytes") => `(tactic| (k_here; (with_reducible show wpAny _ _ (call (Value.type "bytes") [Value.ref _]) _ _ _); k_dflt (refine' bytes_baN ?N ?m ?z ?_; (case N => k_asm); (case m => k_mem); (case z => (first | assumption | exact Nat.le_trans (KBc.size_picked_le _ _ _) (by assumption))); k_whole); intro _ _))
local macro_rules | `(tactic| walk_at "subscriptTail") => `(tactic| (k_here; (with_reducible show wpAny _ _ (subscriptTail _ (Expr.Slice _ _ none _) (Value.ref _) (Value.ref _)) _ _ _); (with_reducible rename Fr _ _ _ _ => F'); (with_reducible rename News _ _ _ _ => N'); (refine cut_baN (s := ⟨_, _, _, _, _⟩) F' N' (by k_mem) (by constructor) (by constructor) (by (first | assumption | exact Nat.le_trans (KBc.size_picked_le _ _ _) (by assumption))) ?_); intro _ _ _ _ _))
local macro_rules | `(tactic| walk_at "call builtin:len") => `(tactic| (k_here; (with_reducible show wpAny _ _ (call (Value.builtin "len") [Value.bytes (rdB _ _ _) _]) _ _ _); refine len_bytes (Nat.le_trans rdB_le (by omega)) ?_))
local macro_rules | `(tactic| walk_at "call builtin:_struct.unpack") => `(tactic| (k_here; k_dflt (refine' unpackBN ?F ?N ?hb ?_; (case F => k_asm); (case N => k_asm); (case hb => assumption); k_whole); intro _ _ _ _ F' N' l1; (try k_lt l1)))
local macro_rules | `(tactic| walk_at "call type:enumerate") => `(tactic| (k_here; (with_reducible show wpAny _ _ (call (Value.type _) [Value.bytes _ _]) _ _ _); k_dflt (refine' call_enumB rfl ?hk ?F ?N ?_; (case hk => assumption); (case F => k_asm); (case N => k_asm); k_whole); intro _ _ F' N' S'))
local macro_rules | `(tactic| walk_at "pyReprObj bytes") => `(tactic| (k_here; (refine repr_bytes (by first | assumption | exact Nat.le_trans rdB_le (by omega)) (by first | assumption | exact literal_le (by first | omega | exact Nat.le_trans rdB_le (by omega))) ?_)))
local macro_rules | `(tactic| walk_at "call ref") => `(tactic| (k_here; k_dflt (first
  | ((with_reducible show wpAny _ _ (call (Value.ref 250) _) _ _ _); refine' tell_pk ?B ?F ?X ?T ?hk ?hd ?hu ?N ?P1 ?P2 ?_; (case F => k_asm); (case X => k_asm); (case T => k_asm); (case B => k_asm); (case hk => (first | assumption | rfl)); (case N => k_asm); (case hd => (first | omega | ((try simp only [depth_deeper, units_deeper, depth_in1, units_in1]); (try dsimp only [ktrTop]); omega))); (case hu => (first | omega | ((try simp only [depth_deeper, units_deeper, depth_in1, units_in1]); (try dsimp only [ktrTop]); omega))); (case P1 => k_upd); (case P2 => k_upd); k_whole; intro _ _ _ F' N')
  | ((with_reducible show wpAny _ _ (call (Value.ref 258) _) _ _ _); refine' end_pk ?B ?F ?X ?T ?hk ?hd ?hu ?hz ?N ?P1 ?P2 ?P3 ?n1 ?n2 ?n3 ?_; (case F => k_asm); (case X => k_asm); (case T => k_asm); (case B => k_asm); (case hk => (first | assumption | rfl)); (case N => k_asm); (case hd => (first | omega | ((try simp only [depth_deeper, units_deeper, depth_in1, units_in1]); (try dsimp only [ktrTop]); omega))); (case hu => (first | omega | ((try simp only [depth_deeper, units_deeper, depth_in1, units_in1]); (try dsimp only [ktrTop]); omega))); (case hz => assumption); (case P1 => k_upd); (case P2 => k_upd); (case P3 => k_upd); (case n1 => (first | assumption | k_ne)); (case n2 => (first | assumption | k_ne)); (case n3 => k_all); k_whole; intro _ _ _ _ F' N')
  | ((with_reducible show wpAny _ _ (call (Value.ref 258) _) _ _ _); refine' seek_pk ?B ?F ?X ?T ?hk ?hd ?hu ?h0 ?h1 ?N ?P1 ?P2 ?n1 ?n3 ?_; (case F => k_asm); (case X => k_asm); (case T => k_asm); (case B => k_asm); (case hk => (first | assumption | rfl)); (case N => k_asm); (case hd => (first | omega | ((try simp only [depth_deeper, units_deeper, depth_in1, units_in1]); (try dsimp only [ktrTop]); omega))); (case hu => (first | omega | ((try simp only [depth_deeper, units_deeper, depth_in1, units_in1]); (try dsimp only [ktrTop]); omega))); (case h0 => (first | omega | ((try simp only [depth_deeper, units_deeper, depth_in1, units_in1]); (try dsimp only [ktrTop]); omega))); (case h1 => (first | omega | ((try simp only [depth_deeper, units_deeper, depth_in1, units_in1]); (try dsimp only [ktrTop]); omega))); (case P1 => k_upd); (case P2 => k_upd); (case n1 => (first | assumption | k_ne)); (case n3 => k_all); k_whole; intro _ _ _ _ F' N')
  | ((with_reducible show wpAny _ _ (call (Value.ref 274) _) _ _ _); refine' read_pk ?B ?F ?X ?T ?hk ?hd ?hu ?h1 ?hp ?hz ?N ?P1 ?P2 ?P3 ?n1 ?n2 ?n3 ?_; (case F => k_asm); (case X => k_asm); (case T => k_asm); (case B => k_asm); (case hk => (first | assumption | rfl)); (case N => k_asm); (case hd => (first | omega | ((try simp only [depth_deeper, units_deeper, depth_in1, units_in1]); (try dsimp only [ktrTop]); omega))); (case hu => (first | omega | ((try simp only [depth_deeper, units_deeper, depth_in1, units_in1]); (try dsimp only [ktrTop]); omega))); (case h1 => (first | omega | ((try simp only [depth_deeper, units_deeper, depth_in1, units_in1]); (try dsimp only [ktrTop]); omega))); (case hp => (first | omega | ((try simp only [depth_deeper, units_deeper, depth_in1, units_in1]); (try dsimp only [ktrTop]); omega))); (case hz => assumption); (case P1 => k_upd); (case P2 => k_upd); (case P3 => k_upd); (case n1 => (first | assumption | k_ne)); (case n2 => (first | assumption | k_ne)); (case n3 => k_all); k_whole; intro _ _ _ _ F' N')
  | ((with_reducible show wpAny _ _ (call (Value.ref 274) _) _ _ _); refine' full_pk ?B ?F ?X ?T ?hk ?hd ?hu ?hp ?hz ?N ?P1 ?P2 ?P3 ?n1 ?n2 ?n3 ?_; (case F => k_asm); (case X => k_asm); (case T => k_asm); (case B => k_asm); (case hk => (first | assumption | rfl)); (case N => k_asm); (case hd => (first | omega | ((try simp only [depth_deeper, units_deeper, depth_in1, units_in1]); (try dsimp only [ktrTop]); omega))); (case hu => (first | omega | ((try simp only [depth_deeper, units_deeper, depth_in1, units_in1]); (try dsimp only [ktrTop]); omega))); (case hp => (first | omega | ((try simp only [depth_deeper, units_deeper, depth_in1, units_in1]); (try dsimp only [ktrTop]); omega))); (case hz => assumption); (case P1 => k_upd); (case P2 => k_upd); (case P3 => k_upd); (case n1 => (first | assumption | k_ne)); (case n2 => (first | assumption | k_ne)); (case n3 => k_all); k_whole; intro _ _ _ _ F' N'))))
section
variable {w : World} {p : Program} {loose : List Str} {mean : ExcName → Option Value} {mg mb : Str → Option Value} {dp un : Nat} {gd : Option (List Code)} {cn : Str} {cs : Scope} {a : Addr} {ccd : Value} {cl : List (Str × Addr)} {outer : List Env} {A₀ : Around} {base h₀ : Heap} {L : Addr} {m : Str → Option Value} {s : Shared} {Q E : Value → Shared → Prop}
variable (B : Below A₀ base outer h₀) (F : Fr h₀ L s.heap m) (X : (K w.params).In h₀) (T : Top p loose mean mg mb h₀) (hk : cs.kind = .function)
include B F X T hk
theorem from_bytes {b : Array UInt8} {t : Tok} {l : List (Addr × Obj)} {R : Result → Shared → Prop} (hd : dp + 58 < recursionLimit) (hu : un + 580 < cLine) (hz : b.size ≤ 16777216)
    (N : News h₀ L s.heap l)
    (ret : ∀ (k dk y e d : Addr) (σ : Sd) (β : Bd) h' tk t1 t2 t3 t4, Fr h₀ L h' m → News h₀ L h' ((k, instObj 643 dk) :: (dk, dictOf [ent w (Str.ofString "_io") t4 (.ref y)] 1) :: (y, instObj 1075 e) :: (e, sdict w σ 0 t1 0 t2) :: (σ.io, instObj 350 d) :: (d, bdict w β 0 t3) :: (β.ba, baObj b) :: l) → R (.ok (.ret (.ref k))) { s with heap := h', toks := tk }) :
    codeC (model prog w) (ktrTop dp un gd cn cs L a ccd cl outer) (.call (.ref 627) ⟨[.ref 643, .bytes b t], []⟩) R s := by
  refine' codeC_def (binds := [(Str.ofString "cls", Value.ref 643), (Str.ofString "buf", Value.bytes b t)]) ?k1 ?k2 ?k3 ?k4 ?k5 ?kA ?kF ?kK ?k6 ?k7 ?k8 ?k9 ?kB ?_ ?c2 ?c3 ?c4 ?c5
  case kA => exact rfl
  case kF => exact rfl
  case kK => assumption
  case k1 => k_asm
  case k2 => k_asm
  case k3 => k_asm
  case k4 => k_asm
  case k5 => k_asm
  case k6 => k_dflt k_is
  case k7 => k_dflt k_is
  case k8 => ktr_room
  case k9 => first | exact BindsTo.of_eq rfl | exact binds_K (by k_in) rfl (by k_is) rfl rfl rfl
  case c5 => decide
  case kB => exact locs rfl
  case c2 => exact rfl
  case c3 => exact rfl
  case c4 => exact rfl
  intro g' L' h' FG' F' N' B' X' T'
  (try dsimp only)
  refine wpC_execs_cons (wpC_Return_some (wpC_Call_Name ?_))
  k_steps
  refine wpC_callWith1 (wpC_Call_Name ?_)
  k_steps
  refine wpC_callWith1 (wpC_Call_Name ?_)
  k_steps
  refine wpC_callWith1 (wpC_of_any ?_)
  k_steps
  refine (Looks.of_peek (X'.keeps F'.keep) (pk_keep350 w.params _)).here ?_
  refine wpC_call ?_
  show codeC _ _ (.call (.ref 350) ⟨[.bytes b t], []⟩) _ _
  k_dflt refine' make_bio B' F' X' T' ?hk ?hd ?hu ?hz N' ?_
  case hk => rfl
  case hd => ((try simp only [depth_deeper, units_deeper, depth_in1, units_in1]); (try dsimp only [ktrTop]); omega)
  case hu => ((try simp only [depth_deeper, units_deeper, depth_in1, units_in1]); (try dsimp only [ktrTop]); omega)
  case hz => rw [sizeLine_eq]; exact hz
  intro x d β h2 tk2 t2 F2 N2 l2 hdx hba
  dsimp only
  refine (Looks.of_peek (X'.keeps F2.keep) (pk_keep1075 w.params _)).here ?_
  refine wpC_of_any ?_
  dsimp only [List.nil_append]
  have hlr : ∀ p ∈ l, p.1 ≠ d := fun p hp => Nat.ne_of_lt (l2 p hp)
  k_dflt refine' kst_new B' F2 X' T' ?hk ?hd ?hu ?hz N2 ?n1 ?n2 ?hl ?_
  case hk => rfl
  case hd => ((try simp only [depth_deeper, units_deeper, depth_in1, units_in1]); (try dsimp only [ktrTop]); omega)
  case hu => ((try simp only [depth_deeper, units_deeper, depth_in1, units_in1]); (try dsimp only [ktrTop]); omega)
  case hz => exact hz
  case n1 => exact Nat.ne_of_gt hdx
  case n2 => exact hba
  case hl => exact hlr
  intro y e σ h3 tk3 t1 t2' t3 hio F3 N3
  subst hio
  dsimp only
  refine (Looks.of_peek (X'.keeps F3.keep) (pk_keep643 w.params _)).here ?_
  refine wpC_of_any ?_
  k_steps
  exact ret _ _ _ _ _ σ β _ _ _ _ _ _ (by k_asm) (news_sub (by k_asm) (by ((repeat refine sub_cons (by k_mem) ?_); (repeat first | exact sub_self | exact sub_nil | refine sub_up ?_))))
end
end Mine
end
section
open PySem PySem.W PySem.Calls PyProof.Rows Builtin Builtin.ObjectAttr
set_option maxRecDepth 100000
set_option maxHeartbeats 4000000
namespace Mine
theorem resetExcA {M : Model} {A : Around} {env : Env} {x : Str} {v : Value} {Q : Unit → Shared → Prop} {E : Value → Shared → Prop} {s : Shared} (h : wpAny M A (storeName env x v) Q E s) : wpAny M A (storeName env x v) Q E s := by
  w_top off
  k_with_none
  first
    | (walk1; fail)
    | exact h
theorem pe_call (P : Params) (p : Program) : peek (K P) ⟨p, P⟩ (specialOf (.ref 1141) "__call__") = some (some (.builtin "type.__call__")) := by kernel_rfl
theorem pe_chkCall (P : Params) (p : Program) (a b c : Value) : peek (K P) ⟨p, P⟩ (checkBuiltinCall "type.__call__" ⟨[.ref 1141, a, b, c], []⟩) = some () := by kernel_rfl
theorem pe_mro (P : Params) (p : Program) : peek (K P) ⟨p, P⟩ (mroOf (.ref 1141)) = some [.ref 1141, .ref 1098, .type "EOFError", .type "Exception", .type "BaseException", .type "object"] := by kernel_rfl
theorem pe_made (P : Params) (p : Program) : peek (K P) ⟨p, P⟩ (Bind.madeBy (.ref 1141)) = some (some "Exception.__new__") := by kernel_rfl
theorem pe_here (P : Params) (p : Program) : peek (K P) ⟨p, P⟩ (Bind.madeHere "BaseException.__new__" (.ref 1141)) = some () := by kernel_rfl
theorem pe_chkNew (P : Params) (p : Program) (a b c : Value) : peek (K P) ⟨p, P⟩ (checkBuiltinCall "Exception.__new__" ⟨[.ref 1141, a, b, c], []⟩) = some () := by kernel_rfl
theorem pe_type (P : Params) (p : Program) : peek (K P) ⟨p, P⟩ (isType (.ref 1141)) = some true := by kernel_rfl
theorem pe_subE (P : Params) (p : Program) : peek (K P) ⟨p, P⟩ (isSubtype (.ref 1141) (.type "Exception")) = some true := by kernel_rfl
theorem pe_subB (P : Params) (p : Program) : peek (K P) ⟨p, P⟩ (isSubtype (.ref 1141) (.type "BaseException")) = some true := by kernel_rfl
theorem pe_subF (P : Params) (p : Program) : peek (K P) ⟨p, P⟩ (isSubtype (.ref 1141) (.type "EOFError")) = some true := by kernel_rfl
theorem pe_subA (P : Params) (p : Program) : peek (K P) ⟨p, P⟩ (isSubtype (.ref 1141) (.type "AttributeError")) = some false := by kernel_rfl
theorem pe_subN (P : Params) (p : Program) : peek (K P) ⟨p, P⟩ (isSubtype (.ref 1141) (.type "NameError")) = some false := by kernel_rfl
theorem pe_subO (P : Params) (p : Program) : peek (K P) ⟨p, P⟩ (isSubtype (.ref 1141) (.type "object")) = some true := by kernel_rfl
theorem pe_self (P : Params) (p : Program) : peek (K P) ⟨p, P⟩ (isSubtype (.ref 1141) (.ref 1141)) = some true := by kernel_rfl
theorem pe_base (P : Params) (p : Program) : peek (K P) ⟨p, P⟩ (isSubtype (.ref 1141) (.ref 1098)) = some true := by kernel_rfl
theorem pe_init (P : Params) (p : Program) : peek (K P) ⟨p, P⟩ (typeLookup (.ref 1141) "__init__") = some (some (.ref 1138)) := by kernel_rfl
theorem pe_fn1138 (P : Params) : typeIn (K P) (.ref 1138) = some (.type "function") := by kernel_rfl
theorem pe_keep (P : Params) (p : Program) : peek (K P) ⟨p, P⟩ (keeperOf (.ref 1141)) = some .machine := by kernel_rfl
theorem pe_cls (P : Params) (p : Program) : ∃ cd, clsIn (K P) 1141 = some cd ∧ cd.hasDict = true := ⟨_, rfl, rfl⟩
theorem pe_obj (P : Params) : ∃ oc od cd sl, (K P).lookup 1141 = some ⟨oc, od, .cls cd, sl⟩ ∧ cd.hasDel = false := ⟨_, _, _, _, rfl, rfl⟩
theorem pe_tcls (P : Params) : typeIn (K P) (.ref 1141) = some (.type "type") := by kernel_rfl
theorem passE (self : Value) : refuseLoop self "__setattr__" [.ref 1141, .ref 1098, .type "EOFError", .type "Exception", .type "BaseException", .type "object"] = pure () := by
  rw [refuseLoop_ref, refuseLoop_ref]
  kernel_rfl
/-- the exception as it is born, and as it stands behind its __init__ -/
abbrev eosBorn (t : Addr) : Obj := { cls := .ref 1141, data := .fields #[.ref t, .none, .none, .none, .bool false, .none] }
abbrev eosObj (t dx : Addr) : Obj := { cls := .ref 1141, dict := some dx, data := .fields #[.ref t, .none, .none, .none, .bool false, .none] }
section
variable {prog : Program} {w : World} {A : Around} {E : Value → Shared → Prop} {R : Result → Shared → Prop} {h : Heap} {g : Array GenState} {d : Drawn} {t : Nat} {os : OsState}
theorem new_eos {a b c : Value} (X : (K w.params).In h)
    (hq : R (.ok (.ret (.ref (h.objs.size + 1)))) ⟨(h.push { cls := .type "tuple", data := .seq [a, b, c].toArray }).push (eosBorn h.objs.size), g, d, t, os⟩) :
    codeAny (model prog w) A (.builtin "Exception.__new__" ⟨[.ref 1141, a, b, c], []⟩) R ⟨h, g, d, t, os⟩ := by
  have Fn := PySem.F.excBase_Exception
  have hends := Fn.ends
  have l1 : Looks (model prog w) h (Bind.madeHere "BaseException.__new__" (.ref 1141)) () := Looks.of_peek X (pe_here _ _)
  have l2 : Looks (model prog w) h (isType (.ref 1141)) true := Looks.of_peek X (pe_type _ _)
  have l3 : Looks (model prog w) h (isSubtype (.ref 1141) (.type "Exception")) true := Looks.of_peek X (pe_subE _ _)
  have l4 : Looks (model prog w) h (isSubtype (.ref 1141) (.type "AttributeError")) false := Looks.of_peek X (pe_subA _ _)
  have l5 : Looks (model prog w) h (isSubtype (.ref 1141) (.type "NameError")) false := Looks.of_peek X (pe_subN _ _)
  refine codeAny_builtinAt Fn.entry ?_
  unfold Builtin.«BaseException.__new__»
  refine PySem.wpAt_bind ?_
  show PySem.wpAt _ _ _ (stack >>= _) _ _ _
  refine PySem.wpAt_bind (PySem.wpAt_stack fun p below => PySem.wpAt_of_wpAny ?_)
  wp_walk
  refine PySem.wpAt_of_wpAny ?_
  rw [Fn.owner]
  repeat (first | with_reducible refine Looks.at l1 ?_ | with_reducible refine Looks.at l2 ?_ | with_reducible refine Looks.at l3 ?_ | with_reducible refine Looks.at l4 ?_ | with_reducible refine Looks.at l5 ?_ | wp_step)
  obtain ⟨oc, od, cd, sl, ho, c2⟩ := pe_obj w.params
  refine wpAny_load (Heap.get?_push_of_some _ (Heap.get?_push_of_some _ (X _ _ ho))) ?_
  refine wpAny_pure ?_
  rw [c2, if_neg Bool.false_ne_true]
  refine wpAny_pure (wpAny_pure ?_)
  show R _ _
  rw [Heap.size_push]
  exact hq
end
section
variable {prog : Program} {w : World} {A A₀ : Around} {E : Value → Shared → Prop} {R : Result → Shared → Prop} {s : Shared} {x L : Addr} {h₀ : Heap} {m : Str → Option Value} {news : List (Addr × Obj)}
theorem osaE_open {ox : Obj} {od : Option Obj} {name : Str} {tk : Tok} {v : Value} (X : (K w.params).In s.heap) (I : InstAt s.heap x ox 1141 od) (hn : findIn (K w.params) (.ref 1141) name = some none)
    (h : wpAny (model prog w) A.in1 (storeInOwnDict (.ref x) (.ref 1141) (.str name tk) name v false)
      (fun fin s' => match fin with | .done f => R (.ok f) s' | .again c' => c'.quiet = true ∧ codeAny (model prog w) A c' R s') (fun e s' => R (.error e) s') s) :
    codeAny (model prog w) A (.call (.builtin "object.__setattr__") ⟨[.ref x, .str name tk, v], []⟩) R s := by
  have SF := PySem.F.store_object
  have sub : Looks (model prog w) s.heap (isInstance (.ref x) (.type "object")) true := I.type.andThen (Looks.of_peek X (pe_subO _ _))
  refine codeAny_call_builtin SF.slot.plain SF.entry (@check_slot (model prog w) _ _ s "object.__setattr__" "object" "__setattr__" (.ref x) [.str name tk, v] [] _ SF.kind SF.split sub (SF.args (.ref x) (.str name tk) v) ?_)
  have hm : Looks (model prog w) s.heap (mroOf (.ref 1141)) _ := Looks.of_peek X (pe_mro _ _)
  rw [osa_eq, refuse_eq]
  refine wpAny_bind (wpAny_bind (I.type.here (wpAny_bind (hm.here ?_))))
  rw [passE]
  refine wpAny_pure (wpAny_bind (I.type.here (wpAny_bind ((looks_findIn X hn).here (wpAny_bind (wpAny_pure ?_))))))
  exact h
theorem setE {ox : Obj} {od od' : Obj} {dx : Addr} {name : Str} {v : Value} {pre post : List (Addr × Obj)} {es : List DictEntry} {n : Nat} {Q : Unit → Shared → Prop} (F : Fr h₀ L s.heap m) (N : News h₀ L s.heap (pre ++ (dx, od) :: post)) (X₀ : (K w.params).In h₀)
    (I : InstAt s.heap x ox 1141 (some od)) (hd : ox.dict = some dx) (hn : findIn (K w.params) (.ref 1141) name = some none)
    (hl : (lookIn name od).isSome = true) (h1 : ∀ p ∈ pre, p.1 ≠ dx) (h2 : ∀ p ∈ post, p.1 ≠ dx)
    (e : Obj.putName name (PyData.keyHash w.params name) (.str name (s.toks + 1)) v od = od') (e' : od'.data = .dict es.toArray n) (hz : es.length ≤ 1000)
    (h : ∀ h', Fr h₀ L h' m → News h₀ L h' (pre ++ (dx, od') :: post) → Q () { s with heap := h', toks := s.toks + 2 }) :
    wpAny (model prog w) A (setAttr (.ref x) name v) Q E s := by
  have X := X₀.keeps F.keep
  refine set_plain X I (by kernel_rfl) (osaE_open (s := { s with toks := s.toks + 1 }) X I hn ?_)
  obtain ⟨cd, hc, hd'⟩ := pe_cls w.params prog
  obtain ⟨U1, U2⟩ := news_upd (f := Obj.putName name (PyData.keyHash w.params name) (.str name (s.toks + 1)) v) F N h1 h2 e (by obtain ⟨_, _, dd, _⟩ := od'; cases e'; rfl)
  have D := (N (dx, od) (by simp)).1
  have D' := (U2 (dx, od') (by simp)).1
  obtain ⟨hx, hcl, hn', -⟩ := I
  obtain ⟨oc, odi, oda, osl⟩ := ox
  dsimp only at hcl hd
  subst hcl hd
  refine wpAny_bind (wpAny_pure (wpAny_bind (wpAny_bind (wpAny_loadPart hx (wpAny_bind (Looks.here (s := { s with toks := s.toks + 1 }) (looks_clsIn X hc) ?_))))))
  rw [hd']
  refine wpAny_pure (a := some dx) (wpAny_bind (wpAny_pure (wpAny_bind ?_)))
  unfold nsSet
  refine wpAny_bind (wpAny_bind (wpAny_askSetting (wpAny_pure (wpAny_bind (wpAny_mkText (wpAny_bind (wpAny_loadPart D ?_)))))))
  unfold lookIn at hl
  split at hl
  · rename_i es₀ n₀ q
    rw [q]
    dsimp only
    have c : (!es₀.any (·.key.isStr name) && es₀.any (·.refKey)) = false := by
      rw [← Array.any_toList, ← Array.any_toList]
      split at hl
      · rename_i en he
        rw [List.any_eq_true.mpr ⟨en, List.mem_of_find?_eq_some he, List.find?_some he⟩]; rfl
      · split at hl
        · cases hl
        · rename_i z; rw [Bool.not_eq_true] at z; rw [z, Bool.and_false]
    rw [aRefKeyMayBeTheName_at, c]
    refine wpAny_updatePart D ?_
    refine wpAny_bind (wpAny_lookBehind D' (by rw [e']; exact pastItsLine_dict (by rw [List.size_toArray, sizeLine_eq]; omega)) ?_)
    exact wpAny_pure (h _ U1 U2)
  · cases hl
/-- the first attribute of an exception: its dict is made -/
theorem setE1 {t : Addr} {name : Str} {v : Value} {pre post : List (Addr × Obj)} {Q : Unit → Shared → Prop} (F : Fr h₀ L s.heap m) (N : News h₀ L s.heap (pre ++ (x, eosBorn t) :: post)) (X₀ : (K w.params).In h₀)
    (hn : findIn (K w.params) (.ref 1141) name = some none) (h1 : ∀ p ∈ pre, p.1 ≠ x) (h2 : ∀ p ∈ post, p.1 ≠ x)
    (h : ∀ dx h' k, Fr h₀ L h' m → News h₀ L h' ((dx, dictOf [⟨PyData.keyHash w.params name, .str name k, v⟩] 1) :: (pre ++ (x, eosObj t dx) :: post)) → (∀ p ∈ pre ++ (x, eosObj t dx) :: post, p.1 < dx) → Q () { s with heap := h', toks := s.toks + 2 }) :
    wpAny (model prog w) A (setAttr (.ref x) name v) Q E s := by
  have X := X₀.keeps F.keep
  have hx : s.heap.get? x = some (eosBorn t) := (N (x, eosBorn t) (by simp)).1
  have I : InstAt s.heap x (eosBorn t) 1141 none := ⟨hx, rfl, rfl, trivial⟩
  refine set_plain X I (by kernel_rfl) (osaE_open (s := { s with toks := s.toks + 1 }) X I hn ?_)
  obtain ⟨cd, hc, hd'⟩ := pe_cls w.params prog
  have N1 := N.push F emptyDict
  have F1 := F.push emptyDict
  have e0 : ∀ p ∈ ((s.heap.objs.size, emptyDict) :: pre), p.1 ≠ x := fun p hp => by
    rcases List.mem_cons.mp hp with rfl | hp
    · exact Nat.ne_of_gt (Heap.lt_size hx)
    · exact h1 p hp
  obtain ⟨F2, N2⟩ := news_upd (pre := (s.heap.objs.size, emptyDict) :: pre) (f := fun o => { o with dict := some s.heap.objs.size }) (o' := eosObj t s.heap.objs.size) F1 N1 e0 h2 rfl rfl
  have lt : ∀ p ∈ pre ++ (x, eosObj t s.heap.objs.size) :: post, p.1 < s.heap.objs.size := fun p hp => by
    rcases List.mem_append.mp hp with hp | hp
    · exact Heap.lt_size (N p (List.mem_append_left _ hp)).1
    · rcases List.mem_cons.mp hp with rfl | hp
      · exact Heap.lt_size hx
      · exact Heap.lt_size (N p (List.mem_append_right _ (.tail _ hp))).1
  obtain ⟨U1, U2⟩ := news_upd (pre := []) (post := pre ++ (x, eosObj t s.heap.objs.size) :: post) (d := s.heap.objs.size) (o := emptyDict) (o' := dictOf [⟨PyData.keyHash w.params name, .str name (s.toks + 1), v⟩] 1)
    (f := Obj.putName name (PyData.keyHash w.params name) (.str name (s.toks + 1)) v) F2 N2 (fun _ h => nomatch h) (fun p hp => Nat.ne_of_lt (lt p hp)) (putName_dict name (PyData.keyHash w.params name) (.str name (s.toks + 1)) v [] 0) rfl
  have D := (N2 (s.heap.objs.size, emptyDict) (by simp)).1
  have D' := (U2 (s.heap.objs.size, dictOf [⟨PyData.keyHash w.params name, .str name (s.toks + 1), v⟩] 1) (by simp)).1
  refine wpAny_bind (wpAny_pure (wpAny_bind (wpAny_bind (wpAny_loadPart hx (wpAny_bind (Looks.here (s := { s with toks := s.toks + 1 }) (looks_clsIn X hc) ?_))))))
  rw [hd']
  refine wpAny_bind (wpAny_alloc' ?_)
  refine wpAny_bind (wpAny_update' (Heap.get?_push_of_some _ hx) ?_)
  refine wpAny_pure (a := some s.heap.objs.size) (wpAny_bind (wpAny_pure (wpAny_bind ?_)))
  unfold nsSet
  refine wpAny_bind (wpAny_bind (wpAny_askSetting (wpAny_pure (wpAny_bind (wpAny_mkText (wpAny_bind (wpAny_loadPart D ?_)))))))
  refine wpAny_updatePart D ?_
  refine wpAny_bind (wpAny_lookBehind D' (pastItsLine_dict (by simp [sizeLine_eq])) ?_)
  exact wpAny_pure (h _ _ _ U1 U2 lt)
end
end Mine
end
section
open PySem PySem.W PySem.Calls PyProof.Rows PySem.Spec
set_option maxRecDepth 100000
set_option maxHeartbeats 8000000
namespace Mine
theorem resetExcB {M : Model} {A : Around} {env : Env} {x : Str} {v : Value} {Q : Unit → Shared → Prop} {E : Value → Shared → Prop} {s : Shared} (h : wpAny M A (storeName env x v) Q E s) : wpAny M A (storeName env x v) Q E s := by
  w_top off
  k_with_none
  first
    | (walk1; fail)
    | exact h
local macro_rules | `(tactic| k_upd) => `(tactic| first | exact Pick.head | (refine' Pick.tail ?pp; (case pp => k_upd)))
local macro_rules | `(tactic| k_all) => `(tactic| assumption)
local macro_rules | `(tactic| k_room) => `(tactic| ktr_room)
local macro_rules | `(tactic| walk_at "call type:type") => `(tactic| refine call_type_of (PySem.W.typeIs_bytes _ _ _) (by decide +kernel) ?_)
local macro_rules | `(tactic| walk_at "call builtin:len") => `(tactic| (k_here; (with_reducible show wpAny _ _ (call (Value.builtin "len") [Value.ref _]) _ _ _); k_dflt (refine' len_baN ?N ?m ?z ?_; (case N => k_asm); (case m => k_mem); (case z => (first | assumption | exact Nat.le_trans (KBc.size_picked_le _ _ _) (by assumption))); k_whole); intro _ _))
local macro_rules | `(tactic| walk_at "call type:bytes") => `(tactic| (k_here; (with_reducible show wpAny _ _ (call (Value.type "bytes") [Value.ref _]) _ _ _); k_dflt (refine' bytes_baN ?N ?m ?z ?_; (case N => k_asm); (case m => k_mem); (case z => (first | assumption | exact Nat.le_trans (KBc.size_picked_le _ _ _) (by assumption))); k_whole); intro _ _))
local macro_rules | `(tactic| walk_at "subscriptTail") => `(tactic| (k_here; (with_reducible show wpAny _ _ (subscriptTail _ (Expr.Slice _ _ none _) (Value.ref _) (Value.ref _)) _ _ _); (with_reducible rename Fr _ _ _ _ => F'); (with_reducible rename News _ _ _ _ => N'); (refine cut_baN (s := ⟨_, _, _, _, _⟩) F' N' (by k_mem) (by constructor) (by constructor) (by (first | assumption | exact Nat.le_trans (KBc.size_picked_le _ _ _) (by assumption))) ?_); intro _ _ _ _ _))
local macro_rules | `(tactic| walk_at "call builtin:len") => `(tactic| (k_here; (with_reducible show wpAny _ _ (call (Value.builtin "len") [Value.bytes (rdB _ _ _) _]) _ _ _); refine len_bytes (Nat.le_trans rdB_le (by omega)) ?_))
local macro_rules | `(tactic| walk_at "call builtin:_struct.unpack") => `(tactic| (k_here; k_dflt (refine' unpackBN ?F ?N ?hb ?_; (case F => k_asm); (case N => k_asm); (case hb => assumption); k_whole); intro _ _ _ _ F' N' l1; (try k_lt l1)))
local macro_rules | `(tactic| walk_at "call type:enumerate") => `(tactic| (k_here; (with_reducible show wpAny _ _ (call (Value.type _) [Value.bytes _ _]) _ _ _); k_dflt (refine' call_enumB rfl ?hk ?F ?N ?_; (case hk => assumption); (case F => k_asm); (case N => k_asm); k_whole); intro _ _ F' N' S'))
local macro_rules | `(tactic| walk_at "pyReprObj bytes") => `(tactic| (k_here; (refine repr_bytes (by first | assumption | exact Nat.le_trans rdB_le (by omega)) (by first | assumption | exact literal_le (by first | omega | exact Nat.le_trans rdB_le (by omega))) ?_)))
section
variable {M : Model} {A : Around} {E : Value → Shared → Prop} {s : Shared} {env : Env} {h₀ : Heap} {L : Addr} {m mg mb : Str → Option Value} {p : Program} {loose : List Str} {w : World}
theorem name_super {pos : Pos} {Q : Value → Shared → Prop} (F : Fr h₀ L s.heap m) (X : (K w.params).In h₀) (T : TopRead p loose mg mb h₀) (h : Q (.type "super") s)
    (hk : env.scope.kind = .function) (hx : env.kindOf "super" = some .globalImplicit) (hg : env.globals = mainGlobals) (hb : env.builtins = builtinsNs) :
    wpAny M A (eval (.Name (Str.ofString "super") pos) env) Q E s :=
  Calls.Name_function_global hk hx (Calls.loadGlobal_builtin (mg := mg) (mb := mb) (by rw [hg]; exact T.g.keeps F.keep) (mg_none_of X T.g (by kernel_rfl)) (by rw [hb]; exact T.b.keeps F.keep) ((T.builtins _ (by decide)).trans (by kernel_rfl)) h) (by decide)
end
theorem slot_wd_get : Slot "wrapper_descriptor" "__get__" "wrapper_descriptor.__get__" := .of (owner := "wrapper_descriptor") (n := "__get__") (by rw [typeLookup_type, builtinLookup_eq_fast]; kernel_rfl) (by decide +kernel) (by decide +kernel) (by decide +kernel)
  (by first | exact .inl (by decide +kernel) | exact .inr (by decide +kernel)) (by rw [isSubtype_type]; kernel_rfl)
theorem entry_wd_get : entryFor table "wrapper_descriptor.__get__" = some Builtin.«wrapper_descriptor.__get__» := entryFor_of_tree (by kernel_rfl)
theorem args_wd_get (a b c : Value) : argsOk "wrapper_descriptor.__get__" ⟨[a, b, c], []⟩ := by unfold argsOk; kernel_rfl
theorem type_eofi : typeOf (.builtin "EOFError.__init__") = pure (.type "wrapper_descriptor") := by kernel_rfl
theorem own_eofi : (".".intercalate ("EOFError.__init__".cutAt '.').dropLast) = "EOFError" := by
  have e0 : "EOFError.__init__".cutAt '.' = ["EOFError", "__init__"] := by first | rfl | decide +kernel
  rw [e0]; decide +kernel
abbrev wrapObj (x : Addr) : Obj := { cls := .type "method-wrapper", data := .fields #[.builtin "EOFError.__init__", .ref x] }
theorem pe_any (P : Params) : nsIn (K P) cStatics "thirdparty.any" = some none := by kernel_rfl
theorem pe_sup1 (P : Params) : ks_superIn (K P) 1141 1141 "__init__" = some (some (.ref 1095)) := by kernel_rfl
theorem pe_sup2 (P : Params) : alongIn (K P) "__init__" [.type "EOFError", .type "Exception", .type "BaseException", .type "object"] = some (some (.builtin "EOFError.__init__")) := by kernel_rfl
theorem pe_D1 (P : Params) : ∃ oc od cd sl, (K P).lookup 1141 = some ⟨oc, od, .cls cd, sl⟩ := ⟨_, _, _, _, rfl⟩
theorem pe_D2 (P : Params) : ∃ oc od cd sl, (K P).lookup 1098 = some ⟨oc, od, .cls cd, sl⟩ := ⟨_, _, _, _, rfl⟩
theorem pe_fn1095 (P : Params) : typeIn (K P) (.ref 1095) = some (.type "function") := by kernel_rfl
section
variable {prog : Program} {w : World} {A : Around} {E : Value → Shared → Prop} {s : Shared} {h₀ : Heap} {L : Addr} {m : Str → Option Value} {news : List (Addr × Obj)} {x so : Addr} {ox : Obj} {od : Option Obj}
theorem call_super2 {D : Addr} {Q : Value → Shared → Prop} (F : Fr h₀ L s.heap m) (X₀ : (K w.params).In h₀) (N : News h₀ L s.heap news) (hD : D = 1141 ∨ D = 1098) (hx : s.heap.get? x = some ox) (hxc : ox.cls = .ref 1141) (hnc : notCls ox = true)
    (h : ∀ q h', Fr h₀ L h' m → News h₀ L h' ((q, ks_superObj D x 1141) :: news) → (∀ p ∈ news, p.1 < q) → Q (.ref q) { s with heap := h' }) :
    wpAny (model prog w) A (call (.type "super") [.ref D, .ref x]) Q E s := by
  have X := X₀.keeps F.keep
  obtain ⟨hh, g, d, t, os⟩ := s
  have hl : ∃ oc od cd sl, (K w.params).lookup D = some ⟨oc, od, .cls cd, sl⟩ := by
    rcases hD with rfl | rfl
    · exact pe_D1 _
    · exact pe_D2 _
  have hs : Looks (model prog w) hh (isSubtype (.ref 1141) (.ref D)) true := by
    rcases hD with rfl | rfl
    · exact Looks.of_peek X (pe_self _ _)
    · exact Looks.of_peek X (pe_base _ _)
  obtain ⟨oc, odd, cd, sl, ho⟩ := hl
  refine ks_wpAny_call_super (X _ _ ho) rfl hx hxc (fun c e => ?_) hs fun h' e k => ?_
  · unfold notCls at hnc
    rw [e] at hnc
    cases hnc
  · obtain ⟨F', N', l'⟩ := ks_newsPush (s := ⟨hh, g, d, t, os⟩) F N rfl e k
    exact h _ _ F' N' l'
theorem super_slotG {KF : Frag} {h : Heap} {g : Array GenState} {d : Drawn} {t : Nat} {os : OsState} {D C : Addr} {l₀ l : List Value} {name : Str} {tk : Tok} {Q : Fin → Shared → Prop}
    (hso : h.get? so = some { cls := .type "super", dict := none, data := .fields #[.ref D, .ref x, .ref C], slots := #[] }) (hno : Looks (model prog w) h (opaqueClassAbove (.ref C)) none)
    (hC : Looks (model prog w) h (mroOf (.ref C)) l₀) (hl : (l₀.dropWhile (· != .ref D)).drop 1 = l) (X : KF.In h)
    (hf : alongIn KF name l = some (some (.builtin "EOFError.__init__"))) (hx : h.get? x = some ox) (hi : Looks (model prog w) h (isSubtype ox.cls (.type "EOFError")) true) (hxC : x ≠ C) (hn : (name == ("__class__" : Str)) = false)
    (hq : Q (.done (.ret (.ref h.objs.size))) ⟨h.push (wrapObj x), g, d, t, os⟩) :
    wpAny (model prog w) A (Builtin.«super.__getattribute__» ⟨[.ref so, .str name tk], []⟩) Q E ⟨h, g, d, t, os⟩ := by
  have hlk := slot_wd_get.lookup
  have hne : (Value.ref x == Value.ref C) = false := by simp [hxC]
  have hTf : (⟨h, g, d, t, os⟩ : Shared).TypeIs (.builtin "EOFError.__init__") "wrapper_descriptor" := type_eofi
  have hdt : ({ cls := .type "super", dict := none, data := .fields #[.ref D, .ref x, .ref C], slots := #[] } : Obj).data = .fields #[.ref D, .ref x, .ref C] := rfl
  have f0 : (#[.ref D, .ref x, .ref C] : Array Value)[0]? = some (.ref D) := rfl
  have f1 : (#[.ref D, .ref x, .ref C] : Array Value)[1]? = some (.ref x) := rfl
  have f2 : (#[.ref D, .ref x, .ref C] : Array Value)[2]? = some (.ref C) := rfl
  have hw := own_eofi
  unfold Builtin.«super.__getattribute__»
  iterate 60 (first
    | (with_reducible refine wpAny_field hso hdt f0 ?_) | (with_reducible refine wpAny_field hso hdt f1 ?_) | (with_reducible refine wpAny_field hso hdt f2 ?_)
    | (with_reducible refine ks_wpAny_notOpaque hno ?_)
    | (with_reducible refine Looks.at hC ?_; rw [hl])
    | (refine ks_forIn_along X (fun _ _ => rfl) rfl ?_ hf)
    | (with_reducible refine wpAny_typeOf hTf ?_)
    | (with_reducible refine wpAny_call_entry slot_wd_get hTf entry_wd_get ?_ (args_wd_get _ _ _))
    | (with_reducible refine ⟨_, rfl, ?_⟩)
    | (with_reducible refine wpAny_loadPart_at hx ?_)
    | (rw [hw]; with_reducible refine Looks.at hi ?_)
    | (simp only [hn, hne, Bool.or_false, Bool.false_eq_true, if_false])
    | wp_step
    | dsimp only
    | skip)
  rw [hw]
  refine Looks.at hi ?_
  iterate 20 (first | wp_step | dsimp only | skip)
  refine ⟨_, rfl, ?_⟩
  repeat (first | assumption | wp_step | dsimp only)
theorem super_method {pl : Sem Bool} {Q : Value × List Value → Shared → Prop} (F : Fr h₀ L s.heap m) (X₀ : (K w.params).In h₀) (N : News h₀ L s.heap news) (hso : (so, ks_superObj 1098 x 1141) ∈ news) (hx : s.heap.get? x = some ox) (hxc : ox.cls = .ref 1141) (hno : notCls ox = true)
    (h : ∀ q h', Fr h₀ L h' m → News h₀ L h' ((q, wrapObj x) :: news) → (∀ p ∈ news, p.1 < q) → Q (.ref q, []) { s with heap := h', toks := s.toks + 1 }) : wpAny (model prog w) A (getMethod (.ref so) (Str.ofString "__init__") pl) Q E s := by
  have X := X₀.keeps F.keep
  have hso := (N _ hso).1
  have hxC : x ≠ 1141 := by
    rintro rfl
    obtain ⟨oc, od, cd, sl, ho⟩ := pe_D1 w.params
    rw [X _ _ ho] at hx
    cases hx
    cases hno
  have e1 := F
  obtain ⟨hh, g, d, t, os⟩ := s
  have hlk := PySem.F.ks_slot_super_ga.lookup
  have hcan := PySem.F.ks_canon_super_ga
  have hT : ∀ t', (⟨hh, g, d, t', os⟩ : Shared).TypeIs (.ref so) "super" := fun _ => ⟨_, hso, rfl⟩
  unfold getMethod
  refine wpAny_bind (wpAny_specialOf (hT _) hlk ?_)
  show wpAny _ _ (if (Manifest.canonical "super.__getattribute__" != "object.__getattribute__") = true then _ else _) _ _ _
  rw [if_pos hcan]
  unfold getAttr getAttrBy
  refine wpAny_bind (wpAny_bind (wpAny_mkText (wpAny_holding (wpAny_bind (wpAny_typeOf (hT _) (wpAny_bind (wpAny_of_eq hlk ?_)))))))
  show wpAny _ _ (getAttrByItsOwn (.ref so) (.str _ t) (.type "super") (.builtin "super.__getattribute__") true false) _ _ _
  unfold getAttrByItsOwn hookBefore callGetattribute boundAndCalled
  refine wpAny_bind (wpAny_of_eq (show (if onTheHeap (.type "super") then typeLookup (.type "super") "__getattr__" else pure none) = pure none from rfl) ?_)
  refine wpAny_bind (wpAny_attempt (wpAny_holding ?_))
  show wpAny _ _ (bindSpecial (.builtin "super.__getattribute__") (.ref so) >>= _) _ _ _
  refine wpAny_bind (wpAny_of_eq (PySem.F.ks_slot_super_ga.bind _) ?_)
  refine wpAny_mono (Q := fun v s' => v = .ref hh.objs.size ∧ s' = ⟨hh.push (wrapObj x), g, d, t + 1, os⟩) (E := fun _ _ => False)
    (wpAny_call_entry PySem.F.ks_slot_super_ga (hT _) PySem.F.ks_entry_super_ga (super_slotG hso (looks_opaque X (pe_any _)) (Looks.of_peek X (pe_mro _ _)) (by decide +kernel) X (pe_sup2 _) hx (by rw [hxc]; exact Looks.of_peek X (pe_subF _ _)) hxC (by decide) ⟨_, rfl, rfl, rfl⟩) (PySem.F.ks_gaArgs_super _ _)) (fun v s' hv => ?_) fun _ _ z => z.elim
  obtain ⟨rfl, rfl⟩ := hv
  obtain ⟨F', N', l'⟩ := ks_newsPush (s := ⟨hh, g, d, t, os⟩) (o := wrapObj x) F N rfl (Heap.get?_push_at rfl rfl) (fun b o e => Heap.get?_push_of_some _ e)
  exact wpAny_pure (wpAny_pure (h _ _ F' N' l'))
end
end Mine
end
section
open PySem PySem.W PySem.Calls PyProof.Rows PySem.Spec
set_option maxRecDepth 100000
set_option maxHeartbeats 8000000
namespace Mine
theorem resetExcC {M : Model} {A : Around} {env : Env} {x : Str} {v : Value} {Q : Unit → Shared → Prop} {E : Value → Shared → Prop} {s : Shared} (h : wpAny M A (storeName env x v) Q E s) : wpAny M A (storeName env x v) Q E s := by
  w_top off
  k_with_none
  first
    | (walk1; fail)
    | exact h
local macro_rules | `(tactic| k_upd) => `(tactic| first | exact Pick.head | (refine' Pick.tail ?pp; (case pp => k_upd)))
local macro_rules | `(tactic| k_all) => `(tactic| assumption)
local macro_rules | `(tactic| k_room) => `(tactic| ktr_room)
local macro_rules | `(tactic| walk_at "call type:type") => `(tactic| refine call_type_of (PySem.W.typeIs_bytes _ _ _) (by decide +kernel) ?_)
local macro_rules | `(tactic| walk_at "call builtin:len") => `(tactic| (k_here; (with_reducible show wpAny _ _ (call (Value.builtin "len") [Value.ref _]) _ _ _); k_dflt (refine' len_baN ?N ?m ?z ?_; (case N => k_asm); (case m => k_mem); (case z => (first | assumption | exact Nat.le_trans (KBc.size_picked_le _ _ _) (by assumption))); k_whole); intro _ _))
local macro_rules | `(tactic| walk_at "call type:bytes") => `(tactic| (k_here; (with_reducible show wpAny _ _ (call (Value.type "bytes") [Value.ref _]) _ _ _); k_dflt (refine' bytes_baN ?N ?m ?z ?_; (case N => k_asm); (case m => k_mem); (case z => (first | assumption | exact Nat.le_trans (KBc.size_picked_le _ _ _) (by assumption))); k_whole); intro _ _))
local macro_rules | `(tactic| walk_at "subscriptTail") => `(tactic| (k_here; (with_reducible show wpAny _ _ (subscriptTail _ (Expr.Slice _ _ none _) (Value.ref _) (Value.ref _)) _ _ _); (with_reducible rename Fr _ _ _ _ => F'); (with_reducible rename News _ _ _ _ => N'); (refine cut_baN (s := ⟨_, _, _, _, _⟩) F' N' (by k_mem) (by constructor) (by constructor) (by (first | assumption | exact Nat.le_trans (KBc.size_picked_le _ _ _) (by assumption))) ?_); intro _ _ _ _ _))
local macro_rules | `(tactic| walk_at "call builtin:len") => `(tactic| (k_here; (with_reducible show wpAny _ _ (call (Value.builtin "len") [Value.bytes (rdB _ _ _) _]) _ _ _); refine len_bytes (Nat.le_trans rdB_le (by omega)) ?_))
local macro_rules | `(tactic| walk_at "call builtin:_struct.unpack") => `(tactic| (k_here; k_dflt (refine' unpackBN ?F ?N ?hb ?_; (case F => k_asm); (case N => k_asm); (case hb => assumption); k_whole); intro _ _ _ _ F' N' l1; (try k_lt l1)))
local macro_rules | `(tactic| walk_at "call type:enumerate") => `(tactic| (k_here; (with_reducible show wpAny _ _ (call (Value.type _) [Value.bytes _ _]) _ _ _); k_dflt (refine' call_enumB rfl ?hk ?F ?N ?_; (case hk => assumption); (case F => k_asm); (case N => k_asm); k_whole); intro _ _ F' N' S'))
local macro_rules | `(tactic| walk_at "pyReprObj bytes") => `(tactic| (k_here; (refine repr_bytes (by first | assumption | exact Nat.le_trans rdB_le (by omega)) (by first | assumption | exact literal_le (by first | omega | exact Nat.le_trans rdB_le (by omega))) ?_)))
theorem ei_kind : builtinKind "EOFError.__init__" = some .slot := by kernel_rfl
theorem ei_split : splitId "EOFError.__init__" = some ("EOFError", "__init__") := by kernel_rfl
theorem ei_plain : plainId "EOFError.__init__" = true := by decide +kernel
theorem ei_row : Manifest.signature? "EOFError.__init__" = some ⟨.positional, "*", "EOFError", .self, [⟨"args", .varPos, false⟩]⟩ := by kernel_rfl
theorem ei_short : ("EOFError" != "*") = true := by decide +kernel
theorem pe_name (P : Params) (p : Program) : ∃ v, peek (K P) ⟨p, P⟩ (typeNameWhole (.ref 1141)) = some v := ⟨"EndOfStreamError", by kernel_rfl⟩
theorem ei_check {prog : Program} {w : World} {A : Around} {E : Value → Shared → Prop} {x : Addr} {ox : Obj} {rest : List Value} {Q : Unit → Shared → Prop} {hh : Heap} {g : Array GenState} {d : Drawn} {t : Nat} {os : OsState}
    (X : (K w.params).In hh) (hx : hh.get? x = some ox) (hxc : ox.cls = .ref 1141) (hq : Q () ⟨hh, g, d, t, os⟩) : wpAny (model prog w) A (checkBoundCall "EOFError.__init__" ⟨.ref x :: rest, []⟩) Q E ⟨hh, g, d, t, os⟩ := by
  have hshort := ei_short
  obtain ⟨nm, hnm⟩ := pe_name w.params prog
  have hs : Looks (model prog w) hh (isSubtype (.ref 1141) (.type "EOFError")) true := Looks.of_peek X (pe_subF _ _)
  have hn : Looks (model prog w) hh (typeNameWhole (.ref 1141)) nm := Looks.of_peek X hnm
  simp only [checkBoundCall, ei_kind, ei_row]
  repeat (first | (with_reducible refine wpAny_loadPart_at hx ?_; rw [hxc]) | (with_reducible refine Looks.at hs ?_) | (with_reducible refine Looks.at hn ?_) | wp_step)
  refine wpAny_onRaise ?_
  rw [show ∀ (a b : String) (n : Nat), Bind.check ⟨.positional, "*", "EOFError", .self, [⟨"args", .varPos, false⟩]⟩ a b n (List.map (fun x => x.fst) ({ pos := .ref x :: rest } : Args).kw) = pure () from
    fun a b n => check_star_args _ _ _ _ _ _]
  exact wpAny_pure hq
theorem ei_entry : entryFor table "EOFError.__init__" = some Builtin.«BaseException.__init__» :=
  entryFor_alias (id' := "BaseException.__init__") (by rw [fastTable_eq_tree]; kernel_rfl) (by first | rfl | decide +kernel) (by decide +kernel) (by rw [fastTable_eq_tree]; kernel_rfl)
section
variable {prog : Program} {w : World} {A : Around} {E : Value → Shared → Prop} {s : Shared} {h₀ : Heap} {L : Addr} {m : Str → Option Value} {x so t : Addr} {ox : Obj} {od : Option Obj}
abbrev tupOne (msg : Str) (u : Tok) : Obj := { cls := .type "tuple", data := .seq #[.str msg u] }
theorem call_wrap {q : Addr} {msg : Str} {u : Tok} {pre post : List (Addr × Obj)} {Q : Value → Shared → Prop} (F : Fr h₀ L s.heap m) (X₀ : (K w.params).In h₀) (N : News h₀ L s.heap (pre ++ (x, eosBorn t) :: post)) (hq : s.heap.get? q = some (wrapObj x)) (h1 : ∀ p ∈ pre, p.1 ≠ x) (h2 : ∀ p ∈ post, p.1 ≠ x)
    (h : ∀ t1 h', Fr h₀ L h' m → News h₀ L h' ((t1, tupOne msg u) :: (pre ++ (x, eosBorn t1) :: post)) → (∀ p ∈ pre ++ (x, eosBorn t1) :: post, p.1 < t1) → Q .none { s with heap := h' }) :
    wpAny (model prog w) A (call (.ref q) [.str msg u]) Q E s := by
  have X := X₀.keeps F.keep
  obtain ⟨hh, g, d, tk, os⟩ := s
  have hx : hh.get? x = some (eosBorn t) := (N (x, eosBorn t) (by simp)).1
  refine wpAny_call (codeAny_of_tree ?_)
  show wpAny _ A.in1 (callAny (.ref q) ⟨[.str msg u], []⟩) _ _ _
  unfold callAny
  refine wpAny_bind (wpAny_load hq ?_)
  show wpAny _ _ (checkBoundCall "EOFError.__init__" ⟨[.ref x, .str msg u], []⟩ >>= fun _ => again (.builtin "EOFError.__init__" ⟨[.ref x, .str msg u], []⟩)) _ _ _
  refine wpAny_bind (ei_check X hx rfl ?_)
  refine wpAny_pure (And.intro (plainId_quiet ei_plain _) (codeAny_builtin ei_entry ?_))
  unfold Builtin.«BaseException.__init__»
  dsimp only
  rw [if_neg (by simp)]
  unfold newTuple Builtin.BaseException.bexcPut
  obtain ⟨F2, N2⟩ := news_upd (pre := (hh.objs.size, tupOne msg u) :: pre) (post := post) (f := Obj.mapFields (·.setIfInBounds 0 (.ref hh.objs.size))) (o' := eosBorn hh.objs.size) (F.push (tupOne msg u)) (N.push F (tupOne msg u)) (fun p hp => by
    rcases List.mem_cons.mp hp with rfl | hp
    · exact Nat.ne_of_gt (Heap.lt_size hx)
    · exact h1 p hp) h2 rfl rfl
  have hx1 := Heap.get?_push_of_some (h := hh) (tupOne msg u) hx
  refine wpAny_bind (wpAny_newObj_type (wpAny_bind (wpAny_bind (wpAny_field hx1 rfl rfl (wpAny_bind (wpAny_setField hx1 rfl (by show 0 < 6; decide) ?_))))) (by size_fits))
  refine wpAny_letGo (wpAny_pure ?_)
  refine h _ _ F2 N2 fun p hp => ?_
  rcases List.mem_append.mp hp with hp | hp
  · exact Heap.lt_size (N p (List.mem_append_left _ hp)).1
  · rcases List.mem_cons.mp hp with rfl | hp
    · exact Heap.lt_size hx
    · exact Heap.lt_size (N p (List.mem_append_right _ (.tail _ hp))).1
end
end Mine
end
section
open PySem PySem.W PySem.Calls PyProof.Rows PySem.Spec
set_option maxRecDepth 100000
set_option maxHeartbeats 8000000
namespace Mine
theorem resetExcD {M : Model} {A : Around} {env : Env} {x : Str} {v : Value} {Q : Unit → Shared → Prop} {E : Value → Shared → Prop} {s : Shared} (h : wpAny M A (storeName env x v) Q E s) : wpAny M A (storeName env x v) Q E s := by
  w_top off
  k_with_none
  first
    | (walk1; fail)
    | exact h
local macro_rules | `(tactic| k_upd) => `(tactic| first | exact Pick.head | (refine' Pick.tail ?pp; (case pp => k_upd)))
local macro_rules | `(tactic| k_all) => `(tactic| assumption)
local macro_rules | `(tactic| k_room) => `(tactic| ktr_room)
local macro_rules | `(tactic| walk_at "call type:type") => `(tactic| refine call_type_of (PySem.W.typeIs_bytes _ _ _) (by decide +kernel) ?_)
local macro_rules | `(tactic| walk_at "call builtin:len") => `(tactic| (k_here; (with_reducible show wpAny _ _ (call (Value.builtin "len") [Value.ref _]) _ _ _); k_dflt (refine' len_baN ?N ?m ?z ?_; (case N => k_asm); (case m => k_mem); (case z => (first | assumption | exact Nat.le_trans (KBc.size_picked_le _ _ _) (by assumption))); k_whole); intro _ _))
local macro_rules | `(tactic| walk_at "call type:bytes") => `(tactic| (k_here; (with_reducible show wpAny _ _ (call (Value.type "bytes") [Value.ref _]) _ _ _); k_dflt (refine' bytes_baN ?N ?m ?z ?_; (case N => k_asm); (case m => k_mem); (case z => (first | assumption | exact Nat.le_trans (KBc.size_picked_le _ _ _) (by assumption))); k_whole); intro _ _))
local macro_rules | `(tactic| walk_at "subscriptTail") => `(tactic| (k_here; (with_reducible show wpAny _ _ (subscriptTail _ (Expr.Slice _ _ none _) (Value.ref _) (Value.ref _)) _ _ _); (with_reducible rename Fr _ _ _ _ => F'); (with_reducible rename News _ _ _ _ => N'); (refine cut_baN (s := ⟨_, _, _, _, _⟩) F' N' (by k_mem) (by constructor) (by constructor) (by (first | assumption | exact Nat.le_trans (KBc.size_picked_le _ _ _) (by assumption))) ?_); intro _ _ _ _ _))
local macro_rules | `(tactic| walk_at "call builtin:len") => `(tactic| (k_here; (with_reducible show wpAny _ _ (call (Value.builtin "len") [Value.bytes (rdB _ _ _) _]) _ _ _); refine len_bytes (Nat.le_trans rdB_le (by omega)) ?_))
local macro_rules | `(tactic| walk_at "call builtin:_struct.unpack") => `(tactic| (k_here; k_dflt (refine' unpackBN ?F ?N ?hb ?_; (case F => k_asm); (case N => k_asm); (case hb => assumption); k_whole); intro _ _ _ _ F' N' l1; (try k_lt l1)))
local macro_rules | `(tactic| walk_at "call type:enumerate") => `(tactic| (k_here; (with_reducible show wpAny _ _ (call (Value.type _) [Value.bytes _ _]) _ _ _); k_dflt (refine' call_enumB rfl ?hk ?F ?N ?_; (case hk => assumption); (case F => k_asm); (case N => k_asm); k_whole); intro _ _ F' N' S'))
local macro_rules | `(tactic| walk_at "pyReprObj bytes") => `(tactic| (k_here; (refine repr_bytes (by first | assumption | exact Nat.le_trans rdB_le (by omega)) (by first | assumption | exact literal_le (by first | omega | exact Nat.le_trans rdB_le (by omega))) ?_)))
section
variable {prog : Program} {w : World} {A : Around} {E : Value → Shared → Prop} {s : Shared} {h₀ : Heap} {L : Addr} {m : Str → Option Value} {x so t : Addr} {ox : Obj} {od : Option Obj} {l l1 : List (Addr × Obj)}
theorem call_super3 {D : Addr} {Q : Value → Shared → Prop} (F : Fr h₀ L s.heap m) (X₀ : (K w.params).In h₀) (N : News h₀ L s.heap l) (hD : D = 1141 ∨ D = 1098) (hx : (x, eosBorn t) ∈ l)
    (h : ∀ q h', Fr h₀ L h' m → News h₀ L h' ((q, ks_superObj D x 1141) :: l) → (∀ p ∈ l, p.1 < q) → Q (.ref q) { s with heap := h' }) :
    wpAny (model prog w) A (call (.type "super") [.ref D, .ref x]) Q E s := call_super2 F X₀ N hD (N _ hx).1 rfl rfl h
theorem meth_super1 {pl : Sem Bool} {Q : Value × List Value → Shared → Prop} (F : Fr h₀ L s.heap m) (X₀ : (K w.params).In h₀) (N : News h₀ L s.heap l) (hso : (so, ks_superObj 1141 x 1141) ∈ l) (hx : (x, eosBorn t) ∈ l)
    (h : ∀ q h', Fr h₀ L h' m → News h₀ L h' ((q, methodObj (.ref 1095) (.ref x)) :: l) → (∀ p ∈ l, p.1 < q) → Q (.ref q, []) { s with heap := h', toks := s.toks + 1 }) : wpAny (model prog w) A (getMethod (.ref so) (Str.ofString "__init__") pl) Q E s :=
  ks_method F X₀ N hso (C := 1141) (odx := none) (ox := eosBorn t) ⟨(N _ hx).1, rfl, rfl, trivial⟩ (pe_any _) (pe_sup1 _) (pe_fn1095 _) (by decide) h
theorem meth_super2 {pl : Sem Bool} {Q : Value × List Value → Shared → Prop} (F : Fr h₀ L s.heap m) (X₀ : (K w.params).In h₀) (N : News h₀ L s.heap l) (hso : (so, ks_superObj 1098 x 1141) ∈ l) (hx : (x, eosBorn t) ∈ l)
    (h : ∀ q h', Fr h₀ L h' m → News h₀ L h' ((q, wrapObj x) :: l) → (∀ p ∈ l, p.1 < q) → Q (.ref q, []) { s with heap := h', toks := s.toks + 1 }) : wpAny (model prog w) A (getMethod (.ref so) (Str.ofString "__init__") pl) Q E s :=
  super_method F X₀ N hso (N _ hx).1 rfl rfl h
theorem call_wrapP {q : Addr} {msg : Str} {u : Tok} {Q : Value → Shared → Prop} (F : Fr h₀ L s.heap m) (X₀ : (K w.params).In h₀) (N : News h₀ L s.heap l) (hq : (q, wrapObj x) ∈ l) (P : Pick (x, eosBorn t) l l1) (n : ∀ p ∈ l1, p.1 ≠ x)
    (h : ∀ t1 h', Fr h₀ L h' m → News h₀ L h' ((t1, tupOne msg u) :: (x, eosBorn t1) :: l1) → (∀ p ∈ (x, eosBorn t1) :: l1, p.1 < t1) → Q .none { s with heap := h' }) :
    wpAny (model prog w) A (call (.ref q) [.str msg u]) Q E s := call_wrap (pre := []) F X₀ (news_sub N (P.cons sub_self)) (N _ hq).1 (fun _ h => nomatch h) n h
theorem setE1P {name : Str} {v : Value} {Q : Unit → Shared → Prop} (F : Fr h₀ L s.heap m) (X₀ : (K w.params).In h₀) (N : News h₀ L s.heap l) (P : Pick (x, eosBorn t) l l1) (n : ∀ p ∈ l1, p.1 ≠ x) (hn : findIn (K w.params) (.ref 1141) name = some none)
    (h : ∀ dx h' k, Fr h₀ L h' m → News h₀ L h' ((dx, dictOf [⟨PyData.keyHash w.params name, .str name k, v⟩] 1) :: (x, eosObj t dx) :: l1) → (∀ p ∈ (x, eosObj t dx) :: l1, p.1 < dx) → Q () { s with heap := h', toks := s.toks + 2 }) :
    wpAny (model prog w) A (setAttr (.ref x) name v) Q E s := setE1 (pre := []) F (news_sub N (P.cons sub_self)) X₀ hn (fun _ h => nomatch h) n h
theorem setEP {name : Str} {dx : Addr} {v : Value} {es es' : List DictEntry} {c c' : Nat} {Q : Unit → Shared → Prop} (F : Fr h₀ L s.heap m) (X₀ : (K w.params).In h₀) (N : News h₀ L s.heap l) (hx : (x, eosObj t dx) ∈ l) (P : Pick (dx, dictOf es c) l l1) (n : ∀ p ∈ l1, p.1 ≠ dx) (hn : findIn (K w.params) (.ref 1141) name = some none)
    (hl : (getL name es).isSome = true) (e : (putL name (PyData.keyHash w.params name) (.str name (s.toks + 1)) v es, putN name es c) = (es', c')) (hz : es'.length ≤ 1000)
    (h : ∀ h', Fr h₀ L h' m → News h₀ L h' ((dx, dictOf es' c') :: l1) → Q () { s with heap := h', toks := s.toks + 2 }) :
    wpAny (model prog w) A (setAttr (.ref x) name v) Q E s := by
  obtain ⟨e1, e2⟩ := Prod.mk.inj e
  have D := (N _ (P.mem _ (.head _))).1
  exact setE (pre := []) F (news_sub N (P.cons sub_self)) X₀ (ox := eosObj t dx) ⟨(N _ hx).1, rfl, rfl, D⟩ rfl hn hl (fun _ h => nomatch h) n (by rw [putName_dict, e1, e2]) rfl hz h
def WrapAt (q x : Addr) (h : Heap) : Prop := h.get? q = some (wrapObj x)
theorem wrapAt_of {h : Heap} {q : Addr} (N : News h₀ L h l) (hm : (q, wrapObj x) ∈ l) : WrapAt q x h := (N _ hm).1
theorem callWith_wrap {M : Model} {pos : Pos} {u : Addr} {first : List Value} {env : Env} {e : Expr} {rest : List Expr} {Q : Value → Shared → Prop} (_N : News h₀ L s.heap l) (_hm : (u, wrapObj x) ∈ l)
    (h : wpAny M A (spliced (backTo pos (starEach (e :: rest) env))) (fun vs s₁ => WrapAt u x s₁.heap ∧ wpAny M A (call (.ref u) (first ++ vs)) Q E s₁) E s)
    (he : starEach (e :: rest) env = (false, eval e env) :: starEach rest env := by rfl) (hplain : (backTo pos (starEach rest env)).any (·.1) = false := by rfl) :
    wpAny M A (callWith pos (.ref u) first (backTo pos (starEach (e :: rest) env)) []) Q E s := by
  rw [he] at h ⊢
  have hp : (((false, eval e env) :: backTo pos (starEach rest env)) : List (Bool × Sem Value)).any (·.1) = false := by show (false || (backTo pos (starEach rest env)).any (·.1)) = false; rw [hplain]; rfl
  have h2 := Calls.evalArgs_plain (f := .ref u) (Q := fun a s₁ => WrapAt u x s₁.heap ∧ wpAny M A (call (.ref u) (first ++ a.pos) a.kw) Q E s₁) h
  unfold callWith
  refine wpAny_bind (wpAny_holding (wpAny_mono h2 (fun x s₁ h₁ => wpAny_bind (wpAny_standAt ?_)) fun _ _ x => x))
  obtain ⟨ho, hcall⟩ := h₁
  have hp2 : (backTo pos ((false, eval e env) :: starEach rest env)).any (·.1) = false := hp
  simp only [hp2, List.any_nil, Bool.or_false]
  refine wpAny_bind (m := keeperOf (.ref u)) ?_
  unfold keeperOf
  refine wpAny_bind (wpAny_load ho ?_)
  refine wpAny_pure ?_
  exact wpAny_bind (wpAny_mono hcall (fun r s₂ hr => wpAny_bind (wpAny_holding (wpAny_point (wpAny_pure hr)))) fun _ _ x => x)
end
local macro_rules | `(tactic| walk_at "callWith ref") => `(tactic| (k_here; (with_reducible show wpAny _ _ (callWith _ (Value.ref _) _ (backTo _ (starEach (_ :: _) _)) []) _ _ _); k_dflt (refine' callWith_wrap ?N ?M ?_; (case N => k_asm); (case M => k_mem); k_whole)))
local macro_rules | `(tactic| walk_at "And") => `(tactic| ((with_reducible show WrapAt _ _ _ ∧ _); k_dflt (refine ⟨wrapAt_of (by k_asm) (by k_mem), ?_⟩); (try dsimp only [List.nil_append, List.cons_append])))
local macro_rules | `(tactic| walk_at "eval Name") => `(tactic| (k_here; (with_reducible show wpAny _ _ (eval (Expr.Name (Str.ofString "super") _) _) _ _ _); k_dflt (refine' name_super ?F ?X ?T ?_ ?a ?b ?c ?d; (case F => k_asm); (case X => k_asm); (case T => k_asm); (case a => rfl); (case b => rfl); (case c => rfl); (case d => rfl))))
local macro_rules | `(tactic| walk_at "call type:super") => `(tactic| (k_here; (with_reducible show wpAny _ _ (call (Value.type "super") [Value.ref _, Value.ref _]) _ _ _); k_dflt (refine' call_super3 ?F ?X ?N ?D ?hx ?_; (case F => k_asm); (case X => k_asm); (case N => k_asm); (case D => first | exact .inl rfl | exact .inr rfl); (case hx => k_mem); k_whole); intro _ _ F' N' l1; (try k_lt l1)))
local macro_rules | `(tactic| walk_at "getMethod ref") => `(tactic| (k_here; k_dflt (first
  | (refine' meth_super1 ?F ?X ?N ?so ?hx ?_; (case F => k_asm); (case X => k_asm); (case N => k_asm); (case so => k_mem); (case hx => k_mem); k_whole)
  | (refine' meth_super2 ?F ?X ?N ?so ?hx ?_; (case F => k_asm); (case X => k_asm); (case N => k_asm); (case so => k_mem); (case hx => k_mem); k_whole)); intro _ _ F' N' l1; (try k_lt l1)))
local macro_rules | `(tactic| walk_at "call ref") => `(tactic| (k_here; k_dflt (refine' call_wrapP ?F ?X ?N ?hq ?P ?n ?_; (case F => k_asm); (case X => k_asm); (case N => k_asm); (case hq => k_mem); (case P => k_upd); (case n => k_all); k_whole); intro _ _ F' N' l1; (try k_lt l1)))
local macro_rules | `(tactic| walk_at "setAttr ref") => `(tactic| (k_here; k_dflt (first
  | (refine' setE1P ?F ?X ?N ?P ?n ?hn ?_; (case F => k_asm); (case X => k_asm); (case N => k_asm); (case P => k_upd); (case n => k_all); (case hn => k_is); k_whole; intro _ _ _ F' N' l1; (try k_lt l1))
  | (refine' setEP ?F ?X ?N ?hx ?P ?n ?hn ?hl ?e ?hz ?_; (case F => k_asm); (case X => k_asm); (case N => k_asm); (case hx => k_mem); (case P => k_upd); (case n => k_all); (case hn => k_is); (case hl => k_get); (case e => k_put); (case hz => exact Nat.le_of_ble_eq_true rfl); k_whole; intro _ F' N'))))
theorem allLt_ne {d : Addr} : ∀ {l : List (Addr × Obj)}, AllLt d l → ∀ p ∈ l, p.1 ≠ d
  | [], _, _, hq => nomatch hq
  | p :: r, h, q, hq => by
    rcases List.mem_cons.mp hq with e | hq
    · rw [e]; exact Nat.ne_of_lt h.1
    · exact allLt_ne h.2 q hq
theorem wpAny_ite_false {α : Type} {M : Model} {A : Around} {c : Bool} {t u : Sem α} {Q : α → Shared → Prop} {E : Value → Shared → Prop} {s : Shared} (hc : c = false) (h : wpAny M A u Q E s) : wpAny M A (if c = true then t else u) Q E s := by
  subst hc
  exact h
section
variable {w : World} {p : Program} {loose : List Str} {mean : ExcName → Option Value} {mg mb : Str → Option Value} {dp un : Nat} {gd : Option (List Code)} {cn : Str} {cs : Scope} {a : Addr} {ccd : Value} {cl : List (Str × Addr)} {outer : List Env} {A₀ : Around} {base h₀ : Heap} {L : Addr} {m : Str → Option Value} {s : Shared} {Q E : Value → Shared → Prop}
variable (B : Below A₀ base outer h₀) (F : Fr h₀ L s.heap m) (X : (K w.params).In h₀) (T : Top p loose mean mg mb h₀) (hk : cs.kind = .function)
include B F X T hk
theorem init1095 {x t : Addr} {msg : Str} {u : Tok} {l l1 : List (Addr × Obj)} {R : Result → Shared → Prop} (hd : dp + 18 < recursionLimit) (hu : un + 180 < cLine) (hm : msg.length ≤ 100000)
    (N : News h₀ L s.heap l) (P : Pick (x, eosBorn t) l l1) (nx : ∀ p ∈ l1, p.1 ≠ x)
    (ret : ∀ dx t1 h' tk k u1, Fr h₀ L h' m → News h₀ L h' ((x, eosObj t1 dx) :: (dx, dictOf [ent w (Str.ofString "src_path") k .none] 1) :: (t1, tupOne msg u1) :: l1) → AllLt t1 l1 → AllLt dx l1 → @LT.lt Nat _ x t1 → @LT.lt Nat _ x dx → @LT.lt Nat _ t1 dx → R (.ok (.ret .none)) { s with heap := h', toks := tk }) :
    codeAny (model prog w) (ktrTop dp un gd cn cs L a ccd cl outer) (.call (.ref 1095) ⟨[.ref x, .str msg u, .none], []⟩) R s := by
  replace N := news_sub N (P.cons sub_self)
  refine' ks_code_super ?k1 ?k2 ?k3 ?k4 ?k5 ?kA ?kF ?kK ?k6 ?k7 ?k8 ?k9 ?kB ?_ ?c1 ?c2 ?c3 ?c4
  case kA => exact rfl
  case kF => exact rfl
  case kK => assumption
  case k1 => k_asm
  case k2 => k_asm
  case k3 => k_asm
  case k4 => k_asm
  case k5 => k_asm
  case k6 => k_dflt k_is
  case k7 => k_dflt k_is
  case k8 => ktr_room
  case k9 => exact BindsTo.of_eq rfl
  case kB => exact locs rfl
  case c1 => decide
  case c2 => exact rfl
  case c3 => exact rfl
  case c4 => exact rfl
  intro g' L' h' FG' F' N' B' X' T' l1
  (try k_lt l1)
  (try dsimp only)
  k_steps
  have e0 : Str.ofString "" ++ msg = msg := Str.empty_append msg
  rename (_ ∧ _ ∧ _ ∧ _ ∧ AllLt _ _) => q2
  rename (_ ∧ _ ∧ _ ∧ AllLt _ _) => q1
  exact ret _ _ _ _ _ _ (by k_asm) (news_sub (by k_asm) (by rw [e0]; ((repeat refine sub_cons (by k_mem) ?_); (repeat first | exact sub_self | exact sub_nil | refine sub_up ?_)))) q1.2.2.2 q2.2.2.2.2 q1.1 q2.1 q2.2.1
local macro_rules | `(tactic| walk_at "call ref") => `(tactic| (k_here; k_dflt (refine' call_meth ?N ?hm ?_; (case N => k_asm); (case hm => k_mem); refine' init1095 ?B ?F ?X ?T ?hk ?hd ?hu ?hz ?N ?P ?n ?_; (case F => k_asm); (case X => k_asm); (case T => k_asm); (case B => k_asm); (case hk => (first | assumption | rfl)); (case N => k_asm); (case P => k_upd); (case n => k_all); (case hz => assumption); (case hd => (first | omega | ((try simp only [depth_deeper, units_deeper, depth_in1, units_in1]); (try dsimp only [ktrTop]); omega))); (case hu => (first | omega | ((try simp only [depth_deeper, units_deeper, depth_in1, units_in1]); (try dsimp only [ktrTop]); omega))); k_whole); intro _ _ _ _ _ _ F' N' l1 l2 l3 l4 l5; (have e1 := allLt_ne l1); (have e2 := allLt_ne l2); (try dsimp only [AllLt] at l1 l2)))
theorem init1138 {x t : Addr} {msg : Str} {u tn tv : Tok} {n av : Int} {l l1 : List (Addr × Obj)} {R : Result → Shared → Prop} (hd : dp + 38 < recursionLimit) (hu : un + 380 < cLine) (hm : msg.length ≤ 100000)
    (N : News h₀ L s.heap l) (P : Pick (x, eosBorn t) l l1) (nx : ∀ p ∈ l1, p.1 ≠ x)
    (ret : ∀ dx t1 h' tk k k2 k3 u1, Fr h₀ L h' m → News h₀ L h' ((x, eosObj t1 dx) :: (dx, dictOf [ent w (Str.ofString "src_path") k .none, ent w (Str.ofString "bytes_needed") k2 (.int n tn), ent w (Str.ofString "bytes_available") k3 (.int av tv)] 3) :: (t1, tupOne msg u1) :: l1) → AllLt t1 l1 → AllLt dx l1 → @LT.lt Nat _ x t1 → @LT.lt Nat _ x dx → @LT.lt Nat _ t1 dx → R (.ok (.ret .none)) { s with heap := h', toks := tk }) :
    codeAny (model prog w) (ktrTop dp un gd cn cs L a ccd cl outer) (.call (.ref 1138) ⟨[.ref x, .str msg u, .int n tn, .int av tv], []⟩) R s := by
  replace N := news_sub N (P.cons sub_self)
  refine' ks_code_super ?k1 ?k2 ?k3 ?k4 ?k5 ?kA ?kF ?kK ?k6 ?k7 ?k8 ?k9 ?kB ?_ ?c1 ?c2 ?c3 ?c4
  case kA => exact rfl
  case kF => exact rfl
  case kK => assumption
  case k1 => k_asm
  case k2 => k_asm
  case k3 => k_asm
  case k4 => k_asm
  case k5 => k_asm
  case k6 => k_dflt k_is
  case k7 => k_dflt k_is
  case k8 => ktr_room
  case k9 => exact BindsTo.of_eq rfl
  case kB => exact locs rfl
  case c1 => decide
  case c2 => exact rfl
  case c3 => exact rfl
  case c4 => exact rfl
  intro g' L' h' FG' F' N' B' X' T' l1
  (try k_lt l1)
  (try dsimp only)
  k_steps
  rename (_ ∧ _ ∧ AllLt _ _) => q2
  revert q2
  rename (_ ∧ _ ∧ AllLt _ _) => q1
  intro q2
  exact ret _ _ _ _ _ _ _ _ (by k_asm) (news_sub (by k_asm) (by ((repeat refine sub_cons (by k_mem) ?_); (repeat first | exact sub_self | exact sub_nil | refine sub_up ?_)))) q1.2.2 q2.2.2 (by assumption) (by assumption) (by assumption)
theorem make_eos {msg : Str} {u tn tv : Tok} {n av : Int} {l : List (Addr × Obj)} (hd : dp + 58 < recursionLimit) (hu : un + 580 < cLine) (hm : msg.length ≤ 100000)
    (N : News h₀ L s.heap l)
    (ret : ∀ x dx t1 h' tk k k2 k3 u1, Fr h₀ L h' m → News h₀ L h' ((x, eosObj t1 dx) :: (dx, dictOf [ent w (Str.ofString "src_path") k .none, ent w (Str.ofString "bytes_needed") k2 (.int n tn), ent w (Str.ofString "bytes_available") k3 (.int av tv)] 3) :: (t1, tupOne msg u1) :: l) → AllLt x l → AllLt t1 l → AllLt dx l → @LT.lt Nat _ x t1 → @LT.lt Nat _ x dx → @LT.lt Nat _ t1 dx → Q (.ref x) { s with heap := h', toks := tk }) :
    wpAny (model prog w) (ktrTop dp un gd cn cs L a ccd cl outer) (call (.ref 1141) [.str msg u, .int n tn, .int av tv]) Q E s := by
  obtain ⟨oc, od, cd, sl, ho⟩ := pe_D1 w.params
  have XK := X.keeps F.keep
  have hC := XK _ _ ho
  obtain ⟨hh, g, d, tk, os⟩ := s
  refine wpAny_call (codeAny_of_tree ?_)
  show wpAny _ _ (callAny (.ref 1141) _) _ _ _
  simp only [callAny]
  refine wpAny_bind (wpAny_load hC ?_)
  show wpAny _ _ (callAny.viaDunder (.ref 1141) _) _ _ _
  unfold callAny.viaDunder
  refine wpAny_bind ((Looks.of_peek XK (pe_call _ _)).here ?_)
  dsimp only
  rw [tc_bind]
  refine wpAny_bind (wpAny_pure (wpAny_bind (wpAny_pure ?_)))
  refine wpAny_pure (a := PySem.Fin.again (.call (.builtin "type.__call__") ⟨[.ref 1141, .str msg u, .int n tn, .int av tv], []⟩)) (And.intro rfl ?_)
  refine codeAny_call_builtin_at (Code.quiet_builtin _ (by decide +kernel)) entry_typeCall ((Looks.of_peek XK (pe_chkCall _ _ _ _ _)).here ?_)
  show wpAny _ (ktrTop (dp + 1) (un + 1) gd cn cs L a ccd cl outer) _ _ _ _
  unfold Builtin.«type.__call__»
  dsimp only
  refine wpAny_ite_false rfl ?_
  refine wpAny_bind ((Looks.of_peek XK (pe_mro _ _)).here ?_)
  refine wpAny_ite_false rfl ?_
  refine wpAny_bind ((Looks.of_peek XK (pe_made _ _)).here ?_)
  dsimp only
  refine wpAny_bind (wpAny_pure (wpAny_bind (wpAny_holding (wpAny_call ?_))))
  refine codeAny_call_builtin_code (Code.quiet_builtin _ (by decide +kernel)) ((Looks.of_peek XK (pe_chkNew _ _ _ _ _)).here ?_)
  refine new_eos XK ?_
  dsimp only
  have F1 := F.push { cls := .type "tuple", data := .seq [.str msg u, .int n tn, .int av tv].toArray }
  have N1 := N.push F { cls := .type "tuple", data := .seq [.str msg u, .int n tn, .int av tv].toArray }
  have F2 := F1.push (eosBorn hh.objs.size)
  have N2 := N1.push F1 (eosBorn hh.objs.size)
  have X2 := X.keeps F2.keep
  rw [Heap.size_push] at N2
  have tx : Looks (model prog w) _ (typeOf (.ref (hh.objs.size + 1))) (.ref 1141) := (Looks.ld (N2 _ (.head _)).1).andThen .now
  refine wpAny_bind ?_
  show wpAny _ _ (isInstance (.ref (hh.objs.size + 1)) (.ref 1141)) _ _ _
  refine Looks.at (tx.andThen (Looks.of_peek X2 (pe_self _ _))) ?_
  refine wpAny_ite_false rfl ?_
  refine wpAny_bind (wpAny_holding ?_)
  have i2 : Looks (model prog w) _ (specialOf (.ref (hh.objs.size + 1)) (Str.ofString "__init__")) (some (.ref 1138)) := tx.andThen (Looks.of_peek X2 (pe_init w.params prog))
  unfold callSpecial?
  refine wpAny_bind (Looks.at i2 ?_)
  dsimp only
  refine wpAny_holding (wpAny_bind (Looks.at (bind_fn X2 (.ref (hh.objs.size + 1)) (pe_fn1138 _)) ?_))
  dsimp only
  refine wpAny_bind (wpAny_call ?_)
  refine init1138 (s := ⟨_, g, d, tk, os⟩) (dp := dp + 1) (un := un + 1) B F2 X T hk (by omega) (by omega) hm N2 .head (fun p hp => ?_) ?_
  · rcases List.mem_cons.mp hp with e | hp
    · rw [e]; exact Nat.ne_of_lt (Nat.lt_succ_self _)
    · exact Nat.ne_of_lt (Nat.lt_succ_of_lt (Heap.lt_size (N p hp).1))
  intro dx t1 h3 tk3 k k2 k3 u1 F3 N3 b1 b2 b3 b4 b5
  refine wpAny_pure (wpAny_ite_false rfl (wpAny_pure ?_))
  exact ret _ _ _ _ _ _ _ _ _ F3 (news_sub N3 (by ((repeat refine sub_cons (by k_mem) ?_); (repeat first | exact sub_self | exact sub_nil | refine sub_up ?_)))) (allLt_of fun p hp => Nat.lt_succ_of_lt (Heap.lt_size (N p hp).1)) b1.2 b2.2 b3 b4 b5
end
end Mine
end
section
open PySem PySem.W PySem.Calls PyProof.Rows PySem.Spec
set_option maxRecDepth 100000
set_option maxHeartbeats 8000000
namespace Mine
theorem resetExcR {M : Model} {A : Around} {env : Env} {x : Str} {v : Value} {Q : Unit → Shared → Prop} {E : Value → Shared → Prop} {s : Shared} (h : wpAny M A (storeName env x v) Q E s) : wpAny M A (storeName env x v) Q E s := by
  w_top off
  k_with_none
  first
    | (walk1; fail)
    | exact h
local macro_rules | `(tactic| k_upd) => `(tactic| first | exact Pick.head | (refine' Pick.tail ?pp; (case pp => k_upd)))
local macro_rules | `(tactic| k_all) => `(tactic| assumption)
local macro_rules | `(tactic| k_room) => `(tactic| ktr_room)
local macro_rules | `(tactic| walk_at "call type:type") => `(tactic| refine call_type_of (PySem.W.typeIs_bytes _ _ _) (by decide +kernel) ?_)
local macro_rules | `(tactic| walk_at "call builtin:len") => `(tactic| (k_here; (with_reducible show wpAny _ _ (call (Value.builtin "len") [Value.ref _]) _ _ _); k_dflt (refine' len_baN ?N ?m ?z ?_; (case N => k_asm); (case m => k_mem); (case z => (first | assumption | exact Nat.le_trans (KBc.size_picked_le _ _ _) (by assumption))); k_whole); intro _ _))
local macro_rules | `(tactic| walk_at "call type:bytes") => `(tactic| (k_here; (with_reducible show wpAny _ _ (call (Value.type "bytes") [Value.ref _]) _ _ _); k_dflt (refine' bytes_baN ?N ?m ?z ?_; (case N => k_asm); (case m => k_mem); (case z => (first | assumption | exact Nat.le_trans (KBc.size_picked_le _ _ _) (by assumption))); k_whole); intro _ _))
local macro_rules | `(tactic| walk_at "subscriptTail") => `(tactic| (k_here; (with_reducible show wpAny _ _ (subscriptTail _ (Expr.Slice _ _ none _) (Value.ref _) (Value.ref _)) _ _ _); (with_reducible rename Fr _ _ _ _ => F'); (with_reducible rename News _ _ _ _ => N'); (refine cut_baN (s := ⟨_, _, _, _, _⟩) F' N' (by k_mem) (by constructor) (by constructor) (by (first | assumption | exact Nat.le_trans (KBc.size_picked_le _ _ _) (by assumption))) ?_); intro _ _ _ _ _))
local macro_rules | `(tactic| walk_at "call builtin:len") => `(tactic| (k_here; (with_reducible show wpAny _ _ (call (Value.builtin "len") [Value.bytes (rdB _ _ _) _]) _ _ _); refine len_bytes (Nat.le_trans rdB_le (by omega)) ?_))
local macro_rules | `(tactic| walk_at "call builtin:_struct.unpack") => `(tactic| (k_here; k_dflt (refine' unpackBN ?F ?N ?hb ?_; (case F => k_asm); (case N => k_asm); (case hb => assumption); k_whole); intro _ _ _ _ F' N' l1; (try k_lt l1)))
local macro_rules | `(tactic| walk_at "call type:enumerate") => `(tactic| (k_here; (with_reducible show wpAny _ _ (call (Value.type _) [Value.bytes _ _]) _ _ _); k_dflt (refine' call_enumB rfl ?hk ?F ?N ?_; (case hk => assumption); (case F => k_asm); (case N => k_asm); k_whole); intro _ _ F' N' S'))
local macro_rules | `(tactic| walk_at "pyReprObj bytes") => `(tactic| (k_here; (refine repr_bytes (by first | assumption | exact Nat.le_trans rdB_le (by omega)) (by first | assumption | exact literal_le (by first | omega | exact Nat.le_trans rdB_le (by omega))) ?_)))
/-- the heap while the exception with a dict is under way -/
structure FlyD (base : Heap) (l : List Env) (e dx t : Addr) (fl : Value) (h : Heap) : Prop where
  stays : base.StaysIn h
  new : base.get? e = none
  frames : h.FunFrames base l
  traced : ∃ oe vs T oT ts, h.get? e = some oe ∧ (oe.cls = .ref 1141 ∧ oe.dict = some dx ∧ vs[0]? = some (.ref t)) ∧ oe.data = .fields vs ∧ vs[1]? = some (.ref T) ∧ base.get? T = none ∧ T ≠ e ∧ h.get? T = some oT ∧ oT.data = .fields ts ∧ ts[3]? = some fl
section
variable {M : Model} {A : Around} {E : Value → Shared → Prop} {s : Shared} {base : Heap} {env : Env} {outer l : List Env} {L e dx t : Addr} {fl : Value} {Q : Unit → Shared → Prop}
theorem FlyD.keeps {h h' : Heap} (x : FlyD base l e dx t fl h) (k : ∀ b o, h.get? b = some o → h'.get? b = some o) : FlyD base l e dx t fl h' := by
  obtain ⟨f1, f2, f3, oe, vs, T, oT, ts, a1, a2, a3, a4, a5, a6, a7, a8⟩ := x
  exact ⟨fun b o q => k b o (f1 b o q), f2, f3.of_keeps fun b o q _ => ⟨o, k b o q, rfl⟩, oe, vs, T, oT, ts, k _ _ a1, a2, a3, a4, a5, a6, k _ _ a7, a8⟩
/-- the new entry of the traceback -/
theorem entryD {oe : Obj} {vs : Array Value} {head : Value} {hadNext : Bool}
    (hfr : A.frames = some (env :: outer)) (hl : s.heap.FunFrames base (env :: outer)) (hf : env.frame = some L)
    (he : s.heap.get? e = some oe) (hkb : base.StaysIn s.heap) (hen : base.get? e = none) (hc : oe.cls = .ref 1141) (hdx : oe.dict = some dx) (hd : oe.data = .fields vs) (hsz : 1 < vs.size) (h0 : vs[0]? = some (.ref t))
    (h : ∀ h', FlyD base (env :: outer) e dx t (rawInt L) h' → s.heap.UpToSlots h' → Q () { s with heap := h' }) :
    wpAny M A (do let a ← frameOf env; let pl ← entryPlaceOf L hadNext; let b ← EntryCells.newEntry head a .none (rawInt L) .none pl; setField (.ref e) 1 b) Q E s := by
  have hene : e ∉ (env :: outer).filterMap (·.frame) := fun hm => by
    obtain ⟨_, o, ho, hnf⟩ := hl.mem hm
    cases he.symm.trans ho
    exact hnf vs hd
  refine wpAny_bind (wpAny_frameOf_fun hfr hl hf fun h₁ hs₁ => wpAny_bind (wpAny_entryPlaceOf fun pl hpl => ?_))
  unfold EntryCells.newEntry newFields
  refine wpAny_bind (wpAny_newObj_type ?_ (hpl.sizeOk5 _ _ _ _ _))
  generalize hT : ([head, .ref L, .none, rawInt L, .none] ++ (if pl.isEmpty then List.replicate 6 Value.none else pl)).toArray = ts
  have h3 : ts[3]? = some (rawInt L) := by rw [← hT]; rfl
  have he₁ : h₁.get? e = some oe := (hs₁.2.1 e hene).trans he
  have kb₁ : base.StaysIn h₁ := fun b o hbo => (hs₁.2.1 b fun hm => by rw [(hl.mem hm).1] at hbo; cases hbo).trans (hkb b o hbo)
  have he₂ := Heap.get?_push_of_some (h := h₁) { cls := .type "traceback", dict := none, data := .fields ts } he₁
  have hTe : h₁.objs.size ≠ e := Nat.ne_of_gt (Heap.lt_size he₁)
  have hd₃ := Obj.data_mapFields hd (·.setIfInBounds 1 (Value.ref h₁.objs.size))
  refine wpAny_setField he₂ hd hsz ?_
  have he₃ := Heap.get?_update_self (Obj.mapFields (·.setIfInBounds 1 (Value.ref h₁.objs.size))) he₂ (Obj.isFreed_of_fields hd₃)
  have hT₃ := (Heap.get?_update_other (h₁.push { cls := .type "traceback", dict := none, data := .fields ts }) (Obj.mapFields (·.setIfInBounds 1 (Value.ref h₁.objs.size))) (Ne.symm hTe)).trans (Heap.get?_push_size h₁ rfl)
  have keep : ∀ b o, b ≠ e → h₁.get? b = some o → ((h₁.push { cls := .type "traceback", dict := none, data := .fields ts }).update e (Obj.mapFields (·.setIfInBounds 1 (Value.ref h₁.objs.size)))).get? b = some o :=
    fun b o hbe hb => (Heap.get?_update_other _ _ (Ne.symm hbe)).trans (Heap.get?_push_of_some _ hb)
  have noRec : ∀ b o, s.heap.get? b = some o → (∀ vs, o.data ≠ .fields vs) → b ≠ e := fun b o hb hnf q => by
    subst q
    cases he.symm.trans hb
    exact hnf vs hd
  have hdict : ∀ f : Array Value → Array Value, (oe.mapFields f).dict = oe.dict := fun f => by
    obtain ⟨_, _, dd, _⟩ := oe
    cases dd <;> rfl
  refine h _ ⟨fun b o hbo => keep b o (fun q => by rw [q, hen] at hbo; cases hbo) (kb₁ b o hbo), hen, hl.of_keeps fun b o hb hnf => ?_, ?_⟩ fun b o hb hnf => ?_
  · obtain ⟨sl, hs⟩ := hs₁.2.2 b o hb
    exact ⟨_, keep b _ (noRec b o hb hnf) hs, rfl⟩
  · exact ⟨_, _, h₁.objs.size, _, _, he₃, ⟨(Obj.cls_mapFields _ _).trans hc, (hdict _).trans hdx, by rw [Array.getElem?_setIfInBounds_ne (by decide)]; exact h0⟩, hd₃, by simp [hsz], kb₁.fresh, hTe, hT₃, rfl, h3⟩
  · obtain ⟨sl, hs⟩ := hs₁.2.2 b o hb
    exact ⟨sl, keep b _ (noRec b o hb hnf) hs⟩
theorem flightD (x : FlyD base l e dx t fl s.heap) (h : ∀ h', FlyD base l e dx t .none h' → s.heap.UpToSlots h' → Q () { s with heap := h' }) : wpAny M A (setFlight (.ref e) none) Q E s := by
  obtain ⟨hkb, hen, hl, oe, vs, T, oT, ts, he, hc, hd, h1, hnT, hTe, hT, hdT, h3⟩ := x
  have hsz3 : 3 < ts.size := (Array.getElem?_eq_some_iff.mp h3).1
  have other : ∀ b, b ≠ T → (s.heap.update T (Obj.mapFields (·.setIfInBounds 3 ((none : Option Addr).elim Value.none fun f => rawInt f)))).get? b = s.heap.get? b := fun b hb => Heap.get?_update_other _ _ (Ne.symm hb)
  have noRec : ∀ b o, s.heap.get? b = some o → (∀ vs, o.data ≠ .fields vs) → b ≠ T := fun b o hb hnf q => by
    subst q
    cases hT.symm.trans hb
    exact hnf ts hdT
  unfold setFlight
  refine wpAny_bind (wpAny_field he hd h1 ?_)
  rw [if_pos (show (Value.ref T != Value.none) = true from by simp)]
  refine wpAny_setField hT hdT hsz3 (h _ ⟨fun b o hbo => (other b fun q => by rw [q, hnT] at hbo; cases hbo).trans (hkb b o hbo), hen, hl.of_keeps fun b o hb hnf => ⟨o, (other b (noRec b o hb hnf)).trans hb, rfl⟩, ?_⟩ fun b o hb hnf => ⟨o.slots, (other b (noRec b o hb hnf)).trans hb⟩)
  exact ⟨oe, vs, T, _, _, (other e (Ne.symm hTe)).trans he, hc, hd, h1, hnT, hTe, Heap.get?_update_self _ hT (Obj.isFreed_of_fields (Obj.data_mapFields hdT _)), Obj.data_mapFields hdT _, by simp [hsz3]⟩
theorem noteFirstD (hfr : A.frames = some (env :: outer)) (hl : s.heap.FunFrames base (env :: outer)) (hf : env.frame = some L) (he : s.heap.get? e = some (eosObj t dx)) (hkb : base.StaysIn s.heap) (hen : base.get? e = none)
    (h : ∀ h', FlyD base (env :: outer) e dx t (rawInt L) h' → s.heap.UpToSlots h' → Q () { s with heap := h' }) : wpAny M A (noteFrame (.ref e) env) Q E s := by
  unfold noteFrame
  simp only [hf]
  refine wpAny_bind (wpAny_field he rfl (x := Value.none) rfl ?_)
  rw [if_neg (by decide)]
  exact entryD hfr hl hf he hkb hen rfl rfl rfl (by show 1 < 6; decide) rfl h
theorem noteD (hfr : A.frames = some (env :: outer)) (hf : env.frame = some L) (x : FlyD base (env :: outer) e dx t .none s.heap)
    (h : ∀ h', FlyD base (env :: outer) e dx t (rawInt L) h' → s.heap.UpToSlots h' → Q () { s with heap := h' }) : wpAny M A (noteFrame (.ref e) env) Q E s := by
  obtain ⟨hkb, hen, hl, oe, vs, T, oT, ts, he, ⟨hcls, hdx, h0⟩, hd, h1, hnT, hTe, hT, hdT, h3⟩ := x
  have other : ∀ b, b ≠ T → (s.heap.update T (Obj.mapFields (·.setIfInBounds 3 Value.none))).get? b = s.heap.get? b := fun b hb => Heap.get?_update_other _ _ (Ne.symm hb)
  have noRec : ∀ b o, s.heap.get? b = some o → (∀ vs, o.data ≠ .fields vs) → b ≠ T := fun b o hb hnf q => by
    subst q
    cases hT.symm.trans hb
    exact hnf ts hdT
  unfold noteFrame
  simp only [hf]
  refine wpAny_bind (wpAny_field he hd h1 ?_)
  rw [if_pos (show (Value.ref T != Value.none) = true from by simp)]
  refine wpAny_bind (wpAny_field hT hdT h3 ?_)
  rw [if_neg (show ¬ ((Value.none == rawInt L) = true) from by simp [rawInt])]
  refine wpAny_bind (wpAny_setField hT hdT (Array.getElem?_eq_some_iff.mp h3).1 ?_)
  exact entryD hfr (hl.of_keeps fun b o hb hnf => ⟨o, (other b (noRec b o hb hnf)).trans hb, rfl⟩) hf ((other e (Ne.symm hTe)).trans he)
    (fun b o hbo => (other b fun q => by rw [q, hnT] at hbo; cases hbo).trans (hkb b o hbo)) hen hcls hdx hd (Array.getElem?_eq_some_iff.mp h1).1 h0
    fun h' x1 x2 => h h' x1 fun b o hb hnf => x2 b o ((other b (noRec b o hb hnf)).trans hb) hnf
theorem FlyD.drop {h : Heap} (x : FlyD base (env :: outer) e dx t fl h) : FlyD base outer e dx t fl h := ⟨x.stays, x.new, x.frames.2.2, x.traced⟩
end
def RaisedD (base G : Heap) (l : List Env) (e dx t : Addr) (news : List (Addr × Obj)) (h : Heap) : Prop :=
  ∃ B, base.StaysIn B ∧ (∀ b o, G.get? b = some o → b ∉ l.filterMap (·.frame) → B.get? b = some o) ∧ (∀ q ∈ news, B.get? q.1 = some q.2 ∧ G.get? q.1 = none ∧ base.get? q.1 = none) ∧ FlyD B l e dx t .none h
section
variable {M : Model} {A : Around} {E : Value → Shared → Prop} {s' : Shared} {base g g₂ : Heap} {outer : List Env} {L a e dx t : Addr} {m : Str → Option Value} {name : Str} {scope : Scope} {cd : Value} {Q : Unit → Shared → Prop} {news : List (Addr × Obj)}
theorem leave_raiseD (K : Below A base outer g) (F : Fr g L s'.heap m) (N : News g L s'.heap ((e, eosObj t dx) :: news)) (ne : ∀ q ∈ news, q.1 ≠ e)
    (hQ : ∀ h', RaisedD base g outer e dx t news h' → g.UpToSlots h' → Q () { s' with heap := h' }) (hk : scope.kind = .function := by rfl) :
    wpAny M (A.deeper (envOf name scope L a cd)) (leaving (envOf name scope L a cd) (.ref e)) Q E s' := by
  have K' := K.push (name := name) (a := a) (cd := cd) F hk
  have Ne := N _ (.head _)
  have N1 : News g L s'.heap news := news_sub N fun p hp => .tail _ hp
  have ge : g.get? e = none := Ne.2.2
  have be : base.get? e = none := fresh_of_stays K.stays ge
  have hin : ∀ env ∈ (envOf name scope L a cd :: outer), ∀ b, env.frame = some b → b ∈ e :: (envOf name scope L a cd :: outer).filterMap (·.frame) := fun env he b hb => .tail _ (List.mem_filterMap.mpr ⟨env, he, hb⟩)
  have st : base.StaysIn (hideAll s'.heap (e :: (envOf name scope L a cd :: outer).filterMap (·.frame))) := fun b o q => hideAll_get _ (K'.stays b o q) fun hm => by
    rcases List.mem_cons.mp hm with z | hm
    · rw [z, be] at q; cases q
    · rw [(K'.frames.mem hm).1] at q; cases q
  have sg : ∀ b o, g.get? b = some o → b ∉ outer.filterMap (·.frame) → (hideAll s'.heap (e :: (envOf name scope L a cd :: outer).filterMap (·.frame))).get? b = some o := fun b o q nm => hideAll_get _ (F.keep b o q) fun hm => by
    rcases List.mem_cons.mp hm with z | hm
    · rw [z, ge] at q; cases q
    · rcases kts_mem hm with z | z
      · rw [z, kts_self F] at q
        cases q
      · exact nm z
  have hl : ∀ q ∈ news, (hideAll s'.heap (e :: (envOf name scope L a cd :: outer).filterMap (·.frame))).get? q.1 = some q.2 ∧ g.get? q.1 = none ∧ base.get? q.1 = none := fun q hq => by
    refine ⟨hideAll_get _ (N1 q hq).1 fun hm => ?_, (N1 q hq).2.2, fresh_of_stays K.stays (N1 q hq).2.2⟩
    rcases List.mem_cons.mp hm with z | hm
    · exact ne q hq z
    · obtain ⟨env, he, hf⟩ := List.mem_filterMap.mp hm
      rcases List.mem_cons.mp he with rfl | he
      · exact (N1 q hq).2.1 (Option.some.inj hf).symm
      · obtain ⟨o, ho, _⟩ := (K.frames.mem (List.mem_filterMap.mpr ⟨env, he, hf⟩)).2
        rw [(N1 q hq).2.2] at ho; cases ho
  unfold leaving
  refine wpAny_bind (noteFirstD K'.stack (funFrames_hide K'.frames hin) rfl Ne.1 (fun b o q => of_hideAll _ q) (hideAll_none _ (.head _)) fun h₁ x1 u1 => ?_)
  refine flightD x1 fun h₂ x2 u2 => ?_
  exact hQ h₂ ⟨_, st, sg, hl, x2.drop⟩ (((Heap.UpToSlots.of_keeps F.keep).trans u1).trans u2)
theorem leave_onD (K : Below A base outer g) (F : Fr g L g₂ m) (R : RaisedD base g₂ (envOf name scope L a cd :: outer) e dx t news s'.heap) (hsm : g₂.UpToSlots s'.heap)
    (hQ : ∀ h', RaisedD base g outer e dx t news h' → g.UpToSlots h' → Q () { s' with heap := h' }) :
    wpAny M (A.deeper (envOf name scope L a cd)) (leaving (envOf name scope L a cd) (.ref e)) Q E s' := by
  obtain ⟨B, hB, hBG, hl, hfl⟩ := R
  unfold leaving
  refine wpAny_bind (noteD (Around.frames_deeper K.stack) rfl hfl fun h₁ x1 u1 => ?_)
  refine flightD x1 fun h₂ x2 u2 => ?_
  refine hQ h₂ ⟨B, hB, fun b o q nm => hBG b o (F.keep b o q) (fun hm => ?_), fun q hq => ⟨(hl q hq).1, kts_none F.keep (hl q hq).2.1, (hl q hq).2.2⟩, x2.drop⟩ ((Heap.UpToSlots.of_keeps F.keep).trans ((hsm.trans u1).trans u2))
  rcases kts_mem hm with z | z
  · rw [z, kts_self F] at q
    cases q
  · exact nm z
end
def EosO (oe : Obj) (t dx : Addr) : Prop := oe.cls = .ref 1141 ∧ oe.dict = some dx ∧ ∃ ws, oe.data = .fields ws ∧ ws[0]? = some (.ref t)
theorem FlyD.first {h base : Heap} {l : List Env} {e dx t : Addr} {fl : Value} (x : FlyD base l e dx t fl h) : ∃ oe, h.get? e = some oe ∧ EosO oe t dx := by
  obtain ⟨_, _, _, oe, vs, T, oT, ts, a1, ⟨a2, a3, a4⟩, a5, _⟩ := x
  exact ⟨oe, a1, a2, a3, vs, a5, a4⟩
theorem RaisedD.keeps {base G h h' : Heap} {l : List Env} {e dx t : Addr} {news : List (Addr × Obj)} (R : RaisedD base G l e dx t news h) (k : ∀ b o, h.get? b = some o → h'.get? b = some o) : RaisedD base G l e dx t news h' := by
  obtain ⟨B, hB, hBG, hl, hfl⟩ := R
  exact ⟨B, hB, hBG, hl, hfl.keeps k⟩
theorem RaisedD.ty {M : Model} {base G h : Heap} {l : List Env} {e dx t : Addr} {news : List (Addr × Obj)} (R : RaisedD base G l e dx t news h) : Looks M h (typeOf (.ref e)) (.ref 1141) := by
  obtain ⟨B, hB, hBG, hl, hfl⟩ := R
  obtain ⟨oe, he, hc, _⟩ := hfl.first
  rw [← hc]
  exact (Looks.ld he).andThen .now
section
variable {prog : Program} {w : World} {A₀ : Around} {E : Value → Shared → Prop} {s' : Shared} {base g g₀ G : Heap} {outer : List Env} {L a e dx t : Addr} {m : Str → Option Value} {name : Str} {scope : Scope} {cd : Value}
  {n : Str} {b₀ : Stmt} {suite : List Stmt} {pos : Pos} {rest hs : List ExceptHandler} {Q : Flow → Shared → Prop} {news : List (Addr × Obj)} {KF : Frag} {tt : Expr}
  {p : Program} {loose : List Str} {mean : ExcName → Option Value} {mg mb : Str → Option Value}
theorem look_D (R : RaisedD base G (envOf name scope L a cd :: outer) e dx t news s'.heap) (K : Below A₀ base outer g) (hsm : G.UpToSlots s'.heap)
    (k : ∀ h', RaisedD base G (envOf name scope L a cd :: outer) e dx t news h' → G.UpToSlots h' → wpAny (model prog w) (A₀.deeper (envOf name scope L a cd)) (handleBy (.ref e) (envOf name scope L a cd) hs) Q E { s' with heap := h' }) :
    wpAny (model prog w) (A₀.deeper (envOf name scope L a cd)) (noteFrame (.ref e) (envOf name scope L a cd))
      (fun _ s₂ => wpAny (model prog w) (A₀.deeper (envOf name scope L a cd)) (setFlight (.ref e) none) (fun _ s₃ =>
        wpAny (model prog w) (A₀.deeper (envOf name scope L a cd)) (handleBy (.ref e) (envOf name scope L a cd) hs) Q E s₃) E s₂) E s' := by
  obtain ⟨B, hB, hBG, hl, hfl⟩ := R
  refine noteD (Around.frames_deeper K.stack) rfl hfl fun h₄ x4 u4 => ?_
  refine flightD x4 fun h₅ x5 u5 => ?_
  exact k h₅ ⟨B, hB, hBG, hl, x5⟩ (hsm.trans (u4.trans u5))
theorem hit_D (R : RaisedD base G (envOf name scope L a cd :: outer) e dx t news s'.heap) (F : Fr g L G m) (K : Below A₀ base outer g) (hsm : G.UpToSlots s'.heap) (XB : KF.In base) (TB : Top p loose mean mg mb base)
    (D : KtsDicts (outer.filterMap (·.frame)) g) (T0 : KtsTurn (outer.filterMap (·.frame)) g₀ g) (T : KtsTest prog w KF p loose mg mb name scope L a cd (.ref 1141) tt true)
    (k : ∀ h' g' oe tk, EosO oe t dx → KtsTurn (outer.filterMap (·.frame)) g₀ g' → Fr g' L h' (fun y => if y = n then some (.ref e) else m y) → News g' L h' ((e, oe) :: news) → Below A₀ base outer g' → KF.In g' → Top p loose mean mg mb g' → KtsDicts (outer.filterMap (·.frame)) g' →
      wpAny (model prog w) ((A₀.deeper (envOf name scope L a cd)).mark (some (.ref e))) (execs (b₀ :: suite) (envOf name scope L a cd))
        (fun f s₄ => wpAny (model prog w) (A₀.deeper (envOf name scope L a cd)) (do bindName (envOf name scope L a cd) n .none; unbindBehindTheSuite (envOf name scope L a cd) n pos) (fun _ s₅ => Q f s₅) E s₄)
        (AsSuiteRaised (model prog w) ((A₀.deeper (envOf name scope L a cd)).mark (some (.ref e))) (envOf name scope L a cd) n pos (notedBy (model prog w) ((A₀.deeper (envOf name scope L a cd)).mark (some (.ref e))) (envOf name scope L a cd) (cameBackBy (model prog w) (A₀.deeper (envOf name scope L a cd)) (envOf name scope L a cd) E)))
        { s' with heap := h', toks := tk })
    (hk : scope.kind = .function := by rfl) (hlo : (envOf name scope L a cd).kindOf n = some .local := by rfl) :
    wpAny (model prog w) (A₀.deeper (envOf name scope L a cd)) (handleBy (.ref e) (envOf name scope L a cd) (.ExceptHandler (some tt) (some n) (b₀ :: suite) pos :: rest)) Q E s' := by
  have R' := R
  obtain ⟨B₁, _, hBG₁, _, hfl₁⟩ := R'
  obtain ⟨g₅, T₅, F₅, K₅⟩ := kts_ground K F hBG₁ hfl₁.stays hsm
  refine wpAny_handleBy_cons (codeAny_handlers_test (T _ _ _ _ g₅ e m F₅ (XB.keeps K₅.stays) (topRead_of (TB.keeps K₅.stays)) R.ty fun h₅ kp => ?_)) (by intro q; cases q)
  have hsm₅ : G.UpToSlots h₅ := hsm.trans (Heap.UpToSlots.of_keeps kp)
  obtain ⟨B, hB, hBG, hl, hheld⟩ := R.keeps kp
  have hL : B.get? L = none := by
    obtain ⟨_, ⟨L', _, hf, hn', _⟩, _⟩ := hheld.frames
    obtain rfl : L = L' := Option.some.inj hf
    exact hn'
  refine codeAny_handlers_suite_as ?_
  refine flightD hheld fun h₆ hfl₆ hsm₆ => ?_
  obtain ⟨g₆, T₆, F₆, K₆⟩ := kts_ground K F hBG hfl₆.stays (hsm₅.trans hsm₆)
  obtain ⟨oe, hoe, hO⟩ := hfl₆.first
  have hoed := hO.2.2
  obtain ⟨ws, hws, _⟩ := hoed
  have ne₆ : g₆.get? e = none := T₆.none_ _ (kts_fresh F hBG hfl₆.new fun o ho m => by
    obtain ⟨_, o', ho', hd⟩ := K.frames.mem m
    rw [ho] at ho'
    cases ho'
    obtain ⟨sl, hs⟩ := (hsm₅.trans hsm₆) _ _ (F.keep _ _ ho) hd
    rw [hoe] at hs
    cases hs
    exact hd _ hws)
  have Nl : News g₆ L h₆ news := fun q hq => ⟨hfl₆.stays _ _ (hl q hq).1, (fun z => by have := (hl q hq).1; rw [z, hL] at this; cases this), T₆.none_ _ (kts_none F.keep (hl q hq).2.1)⟩
  have N₆ := News.more F₆ Nl hoe (fun es n q => by rw [hws] at q; cases q) ne₆
  refine stN F₆ N₆ (fun h₇ F₇ N₇ => ?_) hk hlo
  exact k h₇ g₆ oe _ hO (T0.trans T₆) F₇ N₇ K₆ (XB.keeps K₆.stays) (TB.keeps K₆.stays) (D.turn T₆)
end
/-- what a raise of the own class hands on -/
def RaisableE (K : Frag) (E : Value → Shared → Prop) (v : Value) (s₁ : Shared) : Prop := ∃ a t dx, v = .ref a ∧ s₁.heap.get? a = some (eosObj t dx) ∧ K.In s₁.heap ∧ E (.ref a) s₁
theorem Raise_eos {prog : Program} {w : World} {A : Around} {E : Value → Shared → Prop} {s : Shared} {env : Env} {e : Expr} {pos : Pos} {Q : Flow → Shared → Prop} (hh : A.handled = none)
    (h : wpAny (model prog w) A (eval e env) (RaisableE (K w.params) E) E s) : wpAny (model prog w) A (exec (.Raise (some e) none pos) env) Q E s := by
  show wpAny _ A (do standAt pos; raiseStmt env (some (do let v ← eval e env; standAt pos; pure v)) none) Q E s
  refine wpAny_bind (wpAny_standAt ?_)
  unfold raiseStmt
  dsimp only
  refine wpAny_bind (wpAny_bind (wpAny_mono h (fun v s₁ h₁ => wpAny_bind (wpAny_standAt (wpAny_pure ?_))) fun _ _ x => x))
  obtain ⟨a, t, dx, rfl, ha, X, hE⟩ := h₁
  have tx : Looks (model prog w) s₁.heap (typeOf (.ref a)) (.ref 1141) := (Looks.ld ha).andThen .now
  have hnt : ∀ {Q' : Bool → Shared → Prop}, Q' false s₁ → wpAny (model prog w) A (isType (.ref a)) Q' E s₁ := by
    intro Q' hq
    simp only [isType, loadHead]
    exact wpAny_bind (wpAny_loadPart ha (wpAny_pure hq))
  refine wpAny_bind (wpAny_pure ?_)
  dsimp only
  refine wpAny_bind (wpAny_holding ?_)
  unfold excFromValue isExcClass
  refine wpAny_bind (wpAny_bind (hnt ?_))
  simp only [Bool.false_eq_true, if_false]
  refine wpAny_pure ?_
  simp only [Bool.false_eq_true, if_false]
  refine wpAny_bind ?_
  show wpAny _ _ (isInstance (.ref a) (.type "BaseException")) _ _ _
  refine (tx.andThen (Looks.of_peek X (pe_subB _ _))).here ?_
  simp only [if_true]
  refine wpAny_pure ?_
  refine wpAny_bind (hnt ?_)
  simp only [Bool.false_eq_true, if_false]
  unfold raisedInstance
  refine wpAny_bind (wpAny_bind (tx.here (wpAny_bind ((looks_typeIn X (pe_tcls _)).here ?_))))
  rw [if_pos (by decide)]
  refine wpAny_pure ?_
  unfold setFlight raiseNew
  refine wpAny_bind (wpAny_bind (wpAny_field ha rfl (x := Value.none) rfl ?_))
  rw [if_neg (by decide)]
  refine wpAny_pure (wpAny_bind (wpAny_handled ?_))
  rw [hh]
  first
    | exact wpAny_throw hE
    | exact wpAny_bind (wpAny_pure (wpAny_throw hE))
end Mine
end
section
open PySem PySem.W PySem.Calls PyProof.Rows PySem.Spec
set_option maxRecDepth 100000
set_option maxHeartbeats 4000000
namespace Mine
theorem resetFmt {M : Model} {A : Around} {env : Env} {x : Str} {v : Value} {Q : Unit → Shared → Prop} {E : Value → Shared → Prop} {s : Shared} (h : wpAny M A (storeName env x v) Q E s) : wpAny M A (storeName env x v) Q E s := by
  w_top off
  k_with_none
  first
    | (walk1; fail)
    | exact h
/-- the words of a short read -/
def shortTxt (n av : Int) : Str := Str.ofString "requested " ++ Str.ofString (toString n) ++ Str.ofString " bytes, but only " ++ Str.ofString (toString av) ++ Str.ofString " bytes available"
theorem fmt_short {n av : Int} {t tn ta : Tok} {b : Addr} (h0 : 0 ≤ n) (h1 : n ≤ 100000) (h2 : 0 ≤ av) (h3 : av ≤ 100000) :
    Meets (Builtin.«str.__mod__» ⟨[.str (Str.mk #[114, 101, 113, 117, 101, 115, 116, 101, 100, 32, 37, 100, 32, 98, 121, 116, 101, 115, 44, 32, 98, 117, 116, 32, 111, 110, 108, 121, 32, 37, 100, 32, 98, 121, 116, 101, 115, 32, 97, 118, 97, 105, 108, 97, 98, 108, 101]) t, .ref b], []⟩)
      (fun _ R s => IsTup s.heap b #[.int n tn, .int av ta] ∧ ∀ t' k, R (.ok (.ret (.str (shortTxt n av) t'))) { s with toks := k }) := by
  unfold shortTxt
  kpt_run
theorem short_mod {prog : Program} {w : World} {A : Around} {E : Value → Shared → Prop} {s : Shared} {n av : Int} {t tn ta : Tok} {b L : Addr} {c : Nat} {h₀ : Heap} {news : List (Addr × Obj)} {Q : Value → Shared → Prop} (N : News h₀ L s.heap news)
    (hb : (b, ({ cls := .type "tuple", data := .seq #[.int n tn, .int av ta] c } : Obj)) ∈ news) (h0 : 0 ≤ n) (h1 : n ≤ 100000) (h2 : 0 ≤ av) (h3 : av ≤ 100000)
    (h : ∀ t' k, Q (.str (shortTxt n av) t') { s with toks := k }) : wpAny (model prog w) A (binaryOp .Mod (.str (Str.ofString "requested %d bytes, but only %d bytes available") t) (.ref b)) Q E s :=
  KPt.mod_tuple N hb (by decide +kernel) (fmt_short h0 h1 h2 h3) h
theorem len_int {n : Int} (h0 : 0 ≤ n) (h1 : n ≤ 100000) : (Str.ofString (toString n)).length ≤ 10 := toString_length_le (k := 10) (by omega) (by decide) (by omega)
theorem short_len {n av : Int} (h0 : 0 ≤ n) (h1 : n ≤ 100000) (h2 : 0 ≤ av) (h3 : av ≤ 100000) : (shortTxt n av).length ≤ 100000 := by
  have a := len_int h0 h1
  have b := len_int h2 h3
  unfold shortTxt
  simp only [Str.length_append]
  rw [show (Str.ofString "requested ").length = 10 by decide +kernel, show (Str.ofString " bytes, but only ").length = 17 by decide +kernel, show (Str.ofString " bytes available").length = 16 by decide +kernel]
  omega
end Mine
end
section
open PySem PySem.W PySem.Calls PyProof.Rows PySem.Spec
set_option maxRecDepth 100000
set_option maxHeartbeats 8000000
namespace Mine
theorem resetSh {M : Model} {A : Around} {env : Env} {x : Str} {v : Value} {Q : Unit → Shared → Prop} {E : Value → Shared → Prop} {s : Shared} (h : wpAny M A (storeName env x v) Q E s) : wpAny M A (storeName env x v) Q E s := by
  w_top off
  k_with_none
  first
    | (walk1; fail)
    | exact h
local macro_rules | `(tactic| k_upd) => `(tactic| first | exact Pick.head | (refine' Pick.tail ?pp; (case pp => k_upd)))
local macro_rules | `(tactic| k_all) => `(tactic| assumption)
local macro_rules | `(tactic| k_room) => `(tactic| ktr_room)
local macro_rules | `(tactic| walk_at "call type:type") => `(tactic| refine call_type_of (PySem.W.typeIs_bytes _ _ _) (by decide +kernel) ?_)
local macro_rules | `(tactic| walk_at "call builtin:len") => `(tactic| (k_here; (with_reducible show wpAny _ _ (call (Value.builtin "len") [Value.ref _]) _ _ _); k_dflt (refine' len_baN ?N ?m ?z ?_; (case N => k_asm); (case m => k_mem); (case z => (first | assumption | exact Nat.le_trans (KBc.size_picked_le _ _ _) (by assumption))); k_whole); intro _ _))
local macro_rules | `(tactic| walk_at "call type:bytes") => `(tactic| (k_here; (with_reducible show wpAny _ _ (call (Value.type "bytes") [Value.ref _]) _ _ _); k_dflt (refine' bytes_baN ?N ?m ?z ?_; (case N => k_asm); (case m => k_mem); (case z => (first | assumption | exact Nat.le_trans (KBc.size_picked_le _ _ _) (by assumption))); k_whole); intro _ _))
local macro_rules | `(tactic| walk_at "subscriptTail") => `(tactic| (k_here; (with_reducible show wpAny _ _ (subscriptTail _ (Expr.Slice _ _ none _) (Value.ref _) (Value.ref _)) _ _ _); (with_reducible rename Fr _ _ _ _ => F'); (with_reducible rename News _ _ _ _ => N'); (refine cut_baN (s := ⟨_, _, _, _, _⟩) F' N' (by k_mem) (by constructor) (by constructor) (by (first | assumption | exact Nat.le_trans (KBc.size_picked_le _ _ _) (by assumption))) ?_); intro _ _ _ _ _))
local macro_rules | `(tactic| walk_at "call builtin:len") => `(tactic| (k_here; (with_reducible show wpAny _ _ (call (Value.builtin "len") [Value.bytes (rdB _ _ _) _]) _ _ _); refine len_bytes (Nat.le_trans rdB_le (by omega)) ?_))
local macro_rules | `(tactic| walk_at "call builtin:_struct.unpack") => `(tactic| (k_here; k_dflt (refine' unpackBN ?F ?N ?hb ?_; (case F => k_asm); (case N => k_asm); (case hb => assumption); k_whole); intro _ _ _ _ F' N' l1; (try k_lt l1)))
local macro_rules | `(tactic| walk_at "call type:enumerate") => `(tactic| (k_here; (with_reducible show wpAny _ _ (call (Value.type _) [Value.bytes _ _]) _ _ _); k_dflt (refine' call_enumB rfl ?hk ?F ?N ?_; (case hk => assumption); (case F => k_asm); (case N => k_asm); k_whole); intro _ _ F' N' S'))
local macro_rules | `(tactic| walk_at "pyReprObj bytes") => `(tactic| (k_here; (refine repr_bytes (by first | assumption | exact Nat.le_trans rdB_le (by omega)) (by first | assumption | exact literal_le (by first | omega | exact Nat.le_trans rdB_le (by omega))) ?_)))
theorem RaisedD.sub {base G h : Heap} {l : List Env} {e dx t : Addr} {n1 n2 : List (Addr × Obj)} (R : RaisedD base G l e dx t n1 h) (hs : ∀ p ∈ n2, p ∈ n1) : RaisedD base G l e dx t n2 h := by
  obtain ⟨B, hB, hBG, hl, hfl⟩ := R
  exact ⟨B, hB, hBG, fun q hq => hl q (hs q hq), hfl⟩
local macro_rules | `(tactic| walk_at "call ref") => `(tactic| (k_here; k_dflt (first
  | ((with_reducible show wpAny _ _ (call (Value.ref 250) _) _ _ _); refine' tell_pk ?B ?F ?X ?T ?hk ?hd ?hu ?N ?P1 ?P2 ?_; (case F => k_asm); (case X => k_asm); (case T => k_asm); (case B => k_asm); (case hk => (first | assumption | rfl)); (case N => k_asm); (case hd => (first | omega | ((try simp only [depth_deeper, units_deeper, depth_in1, units_in1]); (try dsimp only [ktrTop]); omega))); (case hu => (first | omega | ((try simp only [depth_deeper, units_deeper, depth_in1, units_in1]); (try dsimp only [ktrTop]); omega))); (case P1 => k_upd); (case P2 => k_upd); k_whole; intro _ _ _ F' N')
  | ((with_reducible show wpAny _ _ (call (Value.ref 258) _) _ _ _); refine' end_pk ?B ?F ?X ?T ?hk ?hd ?hu ?hz ?N ?P1 ?P2 ?P3 ?n1 ?n2 ?n3 ?_; (case F => k_asm); (case X => k_asm); (case T => k_asm); (case B => k_asm); (case hk => (first | assumption | rfl)); (case N => k_asm); (case hd => (first | omega | ((try simp only [depth_deeper, units_deeper, depth_in1, units_in1]); (try dsimp only [ktrTop]); omega))); (case hu => (first | omega | ((try simp only [depth_deeper, units_deeper, depth_in1, units_in1]); (try dsimp only [ktrTop]); omega))); (case hz => assumption); (case P1 => k_upd); (case P2 => k_upd); (case P3 => k_upd); (case n1 => (first | assumption | k_ne)); (case n2 => (first | assumption | k_ne)); (case n3 => k_all); k_whole; intro _ _ _ _ F' N')
  | ((with_reducible show wpAny _ _ (call (Value.ref 258) _) _ _ _); refine' seek_pk ?B ?F ?X ?T ?hk ?hd ?hu ?h0 ?h1 ?N ?P1 ?P2 ?n1 ?n3 ?_; (case F => k_asm); (case X => k_asm); (case T => k_asm); (case B => k_asm); (case hk => (first | assumption | rfl)); (case N => k_asm); (case hd => (first | omega | ((try simp only [depth_deeper, units_deeper, depth_in1, units_in1]); (try dsimp only [ktrTop]); omega))); (case hu => (first | omega | ((try simp only [depth_deeper, units_deeper, depth_in1, units_in1]); (try dsimp only [ktrTop]); omega))); (case h0 => (first | omega | ((try simp only [depth_deeper, units_deeper, depth_in1, units_in1]); (try dsimp only [ktrTop]); omega))); (case h1 => (first | omega | ((try simp only [depth_deeper, units_deeper, depth_in1, units_in1]); (try dsimp only [ktrTop]); omega))); (case P1 => k_upd); (case P2 => k_upd); (case n1 => (first | assumption | k_ne)); (case n3 => k_all); k_whole; intro _ _ _ _ F' N')
  | ((with_reducible show wpAny _ _ (call (Value.ref 274) _) _ _ _); refine' read_pk ?B ?F ?X ?T ?hk ?hd ?hu ?h1 ?hp ?hz ?N ?P1 ?P2 ?P3 ?n1 ?n2 ?n3 ?_; (case F => k_asm); (case X => k_asm); (case T => k_asm); (case B => k_asm); (case hk => (first | assumption | rfl)); (case N => k_asm); (case hd => (first | omega | ((try simp only [depth_deeper, units_deeper, depth_in1, units_in1]); (try dsimp only [ktrTop]); omega))); (case hu => (first | omega | ((try simp only [depth_deeper, units_deeper, depth_in1, units_in1]); (try dsimp only [ktrTop]); omega))); (case h1 => (first | omega | ((try simp only [depth_deeper, units_deeper, depth_in1, units_in1]); (try dsimp only [ktrTop]); omega))); (case hp => (first | omega | ((try simp only [depth_deeper, units_deeper, depth_in1, units_in1]); (try dsimp only [ktrTop]); omega))); (case hz => assumption); (case P1 => k_upd); (case P2 => k_upd); (case P3 => k_upd); (case n1 => (first | assumption | k_ne)); (case n2 => (first | assumption | k_ne)); (case n3 => k_all); k_whole; intro _ _ _ _ F' N')
  | ((with_reducible show wpAny _ _ (call (Value.ref 274) _) _ _ _); refine' full_pk ?B ?F ?X ?T ?hk ?hd ?hu ?hp ?hz ?N ?P1 ?P2 ?P3 ?n1 ?n2 ?n3 ?_; (case F => k_asm); (case X => k_asm); (case T => k_asm); (case B => k_asm); (case hk => (first | assumption | rfl)); (case N => k_asm); (case hd => (first | omega | ((try simp only [depth_deeper, units_deeper, depth_in1, units_in1]); (try dsimp only [ktrTop]); omega))); (case hu => (first | omega | ((try simp only [depth_deeper, units_deeper, depth_in1, units_in1]); (try dsimp only [ktrTop]); omega))); (case hp => (first | omega | ((try simp only [depth_deeper, units_deeper, depth_in1, units_in1]); (try dsimp only [ktrTop]); omega))); (case hz => assumption); (case P1 => k_upd); (case P2 => k_upd); (case P3 => k_upd); (case n1 => (first | assumption | k_ne)); (case n2 => (first | assumption | k_ne)); (case n3 => k_all); k_whole; intro _ _ _ _ F' N'))))
local macro_rules | `(tactic| walk_at "binaryOp Mod str ref") => `(tactic| (k_here; k_dflt (refine' short_mod ?N ?hb ?a ?b ?c ?d ?_; (case N => k_asm); (case hb => k_mem); (case a => omega); (case b => omega); (case c => omega); (case d => omega); k_whole); intro _ _))
local macro_rules | `(tactic| walk_at "exec Raise some none") => `(tactic| (k_here; k_dflt (refine' Raise_eos ?h ?_; (case h => (first | rfl | assumption)); k_whole)))
local macro_rules | `(tactic| walk_at "call ref") => `(tactic| (k_here; (with_reducible show wpAny _ _ (call (Value.ref 1141) [Value.str _ _, Value.int _ _, Value.int _ _]) _ _ _); k_dflt (refine' make_eos ?B ?F ?X ?T ?hk ?hd ?hu ?hm ?N ?_; (case B => k_asm); (case F => k_asm); (case X => k_asm); (case T => k_asm); (case hk => (first | assumption | rfl)); (case N => k_asm); (case hm => exact short_len (by omega) (by omega) (by omega) (by omega)); (case hd => (first | omega | ((try simp only [depth_deeper, units_deeper, depth_in1, units_in1]); (try dsimp only [ktrTop]); omega))); (case hu => (first | omega | ((try simp only [depth_deeper, units_deeper, depth_in1, units_in1]); (try dsimp only [ktrTop]); omega))); k_whole); intro _ _ _ _ _ _ _ _ _ F' N' l1 l2 l3 l4 l5 l6; (have e1 := allLt_ne l1); (have e2 := allLt_ne l2); (have e3 := allLt_ne l3); (refine ⟨_, _, _, rfl, (N' _ (.head _)).1, Frag.In.keeps (by k_asm) (Fr.keep (by k_asm)), ?_⟩)))
local macro_rules | `(tactic| walk_at "leaving ref") => `(tactic| (k_here; first
  | (refine' leave_onD ?k1 ?k2 ?k3 ?k4 ?_; (case k3 => assumption); (case k1 => assumption); (case k4 => assumption); (case k2 => assumption); k_whole; intro h' R' U'; (try dsimp only at R' U' ⊢))
  | (refine' leave_raiseD ?k1 ?k2 ?k3 ?k4 ?_; (case k1 => assumption); (case k2 => k_asm); (case k3 => k_asm); (case k4 => k_all); k_whole; intro h' R' U'; (try dsimp only at R' U' ⊢))))
section
variable {w : World} {p : Program} {loose : List Str} {mean : ExcName → Option Value} {mg mb : Str → Option Value} {dp un : Nat} {gd : Option (List Code)} {cn : Str} {cs : Scope} {a : Addr} {ccd : Value} {cl : List (Str × Addr)} {outer : List Env} {A₀ : Around} {base h₀ : Heap} {L : Addr} {m : Str → Option Value} {s : Shared} {Q E : Value → Shared → Prop}
variable (B : Below A₀ base outer h₀) (F : Fr h₀ L s.heap m) (X : (K w.params).In h₀) (T : Top p loose mean mg mb h₀) (hk : cs.kind = .function)
include B F X T hk
theorem bytes_short {σ : Sd} {β : Bd} {y e d : Addr} {b : Array UInt8} {rest : List (Addr × Obj)} {bl bits : Int} {u1 u2 t tn : Tok} {pos n : Nat} (hd : dp + 78 < recursionLimit) (hu : un + 780 < cLine) (hp : pos ≤ 1000000000) (hz : b.size ≤ 16777216) (hn : n ≤ 100000) (hin : (rdB b pos n).size < n)
    {l l1 l2 l3 l4 : List (Addr × Obj)} (N0 : News h₀ L s.heap l) (P1 : Pick (y, instObj 1075 e) l l1) (P2 : Pick (e, sdict w σ (bl) u1 (bits) u2) l1 l2) (P3 : Pick (σ.io, instObj 350 d) l2 l3) (P4 : Pick (d, bdict w β ((pos : Int)) t) l3 l4) (P5 : Pick (β.ba, baObj b) l4 rest) (ap : Ap y e σ.io d β.ba rest)
    (err : ∀ g' h' tk x dx t1 k k2 k3 w1 w2 u3 (v1 v2 t2 : Tok), Fr h₀ L g' m → RaisedD base g' (envX cn cs L a ccd cl :: outer) x dx t1 ((dx, dictOf [ent w (Str.ofString "src_path") k .none, ent w (Str.ofString "bytes_needed") k2 (.int n w1), ent w (Str.ofString "bytes_available") k3 (.int (rdB b pos n).size w2)] 3) :: (t1, tupOne (shortTxt n (rdB b pos n).size) u3) :: ((y, instObj 1075 e) :: (e, sdict w σ (bl) u1 (bits) u2) :: (σ.io, instObj 350 d) :: (d, bdict w β ((rdP b.size pos n : Nat)) t2) :: (β.ba, baObj b) :: rest)) h' → g'.UpToSlots h' → E (.ref x) { s with heap := h', toks := tk }) :
    wpAny (model prog w) (ktrTop dp un gd cn cs L a ccd cl outer) (call (.ref 787) [.ref y, .int (n : Int) tn]) Q E s := by
  (obtain ⟨ap1, ap2, ap3, ap4, ap5, ap6, ap7, ap8, ap9⟩ := ap); (replace ap1 := neN ap1); (replace ap2 := neN ap2); (replace ap3 := neN ap3); (replace ap4 := neN ap4); (replace ap5 := neN ap5); (replace ap6 := neN ap6); (replace ap7 := neN ap7)
  have N := news_sub N0 (P1.cons (P2.cons (P3.cons (P4.cons (P5.cons sub_self))))); clear N0 P1 P2 P3 P4 P5
  refine wpAny_call ?_
  refine' code_def (binds := [(Str.ofString "self", Value.ref y), (Str.ofString "n", Value.int (n : Int) tn)]) ?k1 ?k2 ?k3 ?k4 ?k5 ?kA ?kF ?kK ?k6 ?k7 ?k8 ?k9 ?kB ?_ ?c2 ?c3 ?c4 ?c5
  case kA => exact rfl
  case kF => exact rfl
  case kK => assumption
  case k1 => k_asm
  case k2 => k_asm
  case k3 => k_asm
  case k4 => k_asm
  case k5 => k_asm
  case k6 => k_dflt k_is
  case k7 => k_dflt k_is
  case k8 => ktr_room
  case k9 => first | exact BindsTo.of_eq rfl | exact binds_K (by k_in) rfl (by k_is) rfl rfl rfl
  case c5 => decide
  case kB => exact locs rfl
  case c2 => exact rfl
  case c3 => exact rfl
  case c4 => exact rfl
  intro g' L' h' FG' F' N' B' X' T'
  (try dsimp only)
  k_fold
  k_steps
  (rename RaisedD _ _ _ _ _ _ _ _ => R9); (rename Heap.UpToSlots _ _ => U9)
  exact err _ _ _ _ _ _ _ _ _ _ _ _ 0 0 _ (by assumption) (R9.sub (by ((repeat refine sub_cons (by k_mem) ?_); (repeat first | exact sub_self | exact sub_nil | refine sub_up ?_)))) U9
theorem bytes_shortI {σ : Sd} {β : Bd} {y e d : Addr} {b : Array UInt8} {rest : List (Addr × Obj)} {bl bits nI : Int} {u1 u2 t tn : Tok} {pos n : Nat} (hd : dp + 78 < recursionLimit) (hu : un + 780 < cLine) (hp : pos ≤ 1000000000) (hz : b.size ≤ 16777216) (hnI : (n : Int) = nI) (hn : n ≤ 100000) (hin : (rdB b pos n).size < n)
    {l l1 l2 l3 l4 : List (Addr × Obj)} (N0 : News h₀ L s.heap l) (P1 : Pick (y, instObj 1075 e) l l1) (P2 : Pick (e, sdict w σ (bl) u1 (bits) u2) l1 l2) (P3 : Pick (σ.io, instObj 350 d) l2 l3) (P4 : Pick (d, bdict w β ((pos : Int)) t) l3 l4) (P5 : Pick (β.ba, baObj b) l4 rest) (ap : Ap y e σ.io d β.ba rest)
    (err : ∀ g' h' tk x dx t1 k k2 k3 w1 w2 u3 (v1 v2 t2 : Tok), Fr h₀ L g' m → RaisedD base g' (envX cn cs L a ccd cl :: outer) x dx t1 ((dx, dictOf [ent w (Str.ofString "src_path") k .none, ent w (Str.ofString "bytes_needed") k2 (.int nI w1), ent w (Str.ofString "bytes_available") k3 (.int (rdB b pos n).size w2)] 3) :: (t1, tupOne (shortTxt nI (rdB b pos n).size) u3) :: ((y, instObj 1075 e) :: (e, sdict w σ (bl) u1 (bits) u2) :: (σ.io, instObj 350 d) :: (d, bdict w β ((rdP b.size pos n : Nat)) t2) :: (β.ba, baObj b) :: rest)) h' → g'.UpToSlots h' → E (.ref x) { s with heap := h', toks := tk }) :
    wpAny (model prog w) (ktrTop dp un gd cn cs L a ccd cl outer) (call (.ref 787) [.ref y, .int nI tn]) Q E s := by
  subst hnI
  exact bytes_short B F X T hk hd hu hp hz hn hin N0 P1 P2 P3 P4 P5 ap err
end
end Mine
end
section
open PySem PySem.W PySem.Calls PyProof.Rows PySem.Spec
set_option maxRecDepth 100000
set_option maxHeartbeats 8000000
namespace Mine
theorem resetSh2 {M : Model} {A : Around} {env : Env} {x : Str} {v : Value} {Q : Unit → Shared → Prop} {E : Value → Shared → Prop} {s : Shared} (h : wpAny M A (storeName env x v) Q E s) : wpAny M A (storeName env x v) Q E s := by
  w_top off
  k_with_none
  first
    | (walk1; fail)
    | exact h
local macro_rules | `(tactic| k_upd) => `(tactic| first | exact Pick.head | (refine' Pick.tail ?pp; (case pp => k_upd)))
local macro_rules | `(tactic| k_all) => `(tactic| assumption)
local macro_rules | `(tactic| k_room) => `(tactic| ktr_room)
local macro_rules | `(tactic| walk_at "call type:type") => `(tactic| refine call_type_of (PySem.W.typeIs_bytes _ _ _) (by decide +kernel) ?_)
local macro_rules | `(tactic| walk_at "call builtin:len") => `(tactic| (k_here; (with_reducible show wpAny _ _ (call (Value.builtin "len") [Value.ref _]) _ _ _); k_dflt (refine' len_baN ?N ?m ?z ?_; (case N => k_asm); (case m => k_mem); (case z => (first | assumption | exact Nat.le_trans (KBc.size_picked_le _ _ _) (by assumption))); k_whole); intro _ _))
local macro_rules | `(tactic| walk_at "call type:bytes") => `(tactic| (k_here; (with_reducible show wpAny _ _ (call (Value.type "bytes") [Value.ref _]) _ _ _); k_dflt (refine' bytes_baN ?N ?m ?z ?_; (case N => k_asm); (case m => k_mem); (case z => (first | assumption | exact Nat.le_trans (KBc.size_picked_le _ _ _) (by assumption))); k_whole); intro _ _))
local macro_rules | `(tactic| walk_at "subscriptTail") => `(tactic| (k_here; (with_reducible show wpAny _ _ (subscriptTail _ (Expr.Slice _ _ none _) (Value.ref _) (Value.ref _)) _ _ _); (with_reducible rename Fr _ _ _ _ => F'); (with_reducible rename News _ _ _ _ => N'); (refine cut_baN (s := ⟨_, _, _, _, _⟩) F' N' (by k_mem) (by constructor) (by constructor) (by (first | assumption | exact Nat.le_trans (KBc.size_picked_le _ _ _) (by assumption))) ?_); intro _ _ _ _ _))
local macro_rules | `(tactic| walk_at "call builtin:len") => `(tactic| (k_here; (with_reducible show wpAny _ _ (call (Value.builtin "len") [Value.bytes (rdB _ _ _) _]) _ _ _); refine len_bytes (Nat.le_trans rdB_le (by omega)) ?_))
local macro_rules | `(tactic| walk_at "call builtin:_struct.unpack") => `(tactic| (k_here; k_dflt (refine' unpackBN ?F ?N ?hb ?_; (case F => k_asm); (case N => k_asm); (case hb => assumption); k_whole); intro _ _ _ _ F' N' l1; (try k_lt l1)))
local macro_rules | `(tactic| walk_at "call type:enumerate") => `(tactic| (k_here; (with_reducible show wpAny _ _ (call (Value.type _) [Value.bytes _ _]) _ _ _); k_dflt (refine' call_enumB rfl ?hk ?F ?N ?_; (case hk => assumption); (case F => k_asm); (case N => k_asm); k_whole); intro _ _ F' N' S'))
local macro_rules | `(tactic| walk_at "pyReprObj bytes") => `(tactic| (k_here; (refine repr_bytes (by first | assumption | exact Nat.le_trans rdB_le (by omega)) (by first | assumption | exact literal_le (by first | omega | exact Nat.le_trans rdB_le (by omega))) ?_)))
local macro_rules | `(tactic| walk_at "call ref") => `(tactic| (k_here; k_dflt (first
  | ((with_reducible show wpAny _ _ (call (Value.ref 250) _) _ _ _); refine' tell_pk ?B ?F ?X ?T ?hk ?hd ?hu ?N ?P1 ?P2 ?_; (case F => k_asm); (case X => k_asm); (case T => k_asm); (case B => k_asm); (case hk => (first | assumption | rfl)); (case N => k_asm); (case hd => (first | omega | ((try simp only [depth_deeper, units_deeper, depth_in1, units_in1]); (try dsimp only [ktrTop]); omega))); (case hu => (first | omega | ((try simp only [depth_deeper, units_deeper, depth_in1, units_in1]); (try dsimp only [ktrTop]); omega))); (case P1 => k_upd); (case P2 => k_upd); k_whole; intro _ _ _ F' N')
  | ((with_reducible show wpAny _ _ (call (Value.ref 258) _) _ _ _); refine' end_pk ?B ?F ?X ?T ?hk ?hd ?hu ?hz ?N ?P1 ?P2 ?P3 ?n1 ?n2 ?n3 ?_; (case F => k_asm); (case X => k_asm); (case T => k_asm); (case B => k_asm); (case hk => (first | assumption | rfl)); (case N => k_asm); (case hd => (first | omega | ((try simp only [depth_deeper, units_deeper, depth_in1, units_in1]); (try dsimp only [ktrTop]); omega))); (case hu => (first | omega | ((try simp only [depth_deeper, units_deeper, depth_in1, units_in1]); (try dsimp only [ktrTop]); omega))); (case hz => assumption); (case P1 => k_upd); (case P2 => k_upd); (case P3 => k_upd); (case n1 => (first | assumption | k_ne)); (case n2 => (first | assumption | k_ne)); (case n3 => k_all); k_whole; intro _ _ _ _ F' N')
  | ((with_reducible show wpAny _ _ (call (Value.ref 258) _) _ _ _); refine' seek_pk ?B ?F ?X ?T ?hk ?hd ?hu ?h0 ?h1 ?N ?P1 ?P2 ?n1 ?n3 ?_; (case F => k_asm); (case X => k_asm); (case T => k_asm); (case B => k_asm); (case hk => (first | assumption | rfl)); (case N => k_asm); (case hd => (first | omega | ((try simp only [depth_deeper, units_deeper, depth_in1, units_in1]); (try dsimp only [ktrTop]); omega))); (case hu => (first | omega | ((try simp only [depth_deeper, units_deeper, depth_in1, units_in1]); (try dsimp only [ktrTop]); omega))); (case h0 => (first | omega | ((try simp only [depth_deeper, units_deeper, depth_in1, units_in1]); (try dsimp only [ktrTop]); omega))); (case h1 => (first | omega | ((try simp only [depth_deeper, units_deeper, depth_in1, units_in1]); (try dsimp only [ktrTop]); omega))); (case P1 => k_upd); (case P2 => k_upd); (case n1 => (first | assumption | k_ne)); (case n3 => k_all); k_whole; intro _ _ _ _ F' N')
  | ((with_reducible show wpAny _ _ (call (Value.ref 274) _) _ _ _); refine' read_pk ?B ?F ?X ?T ?hk ?hd ?hu ?h1 ?hp ?hz ?N ?P1 ?P2 ?P3 ?n1 ?n2 ?n3 ?_; (case F => k_asm); (case X => k_asm); (case T => k_asm); (case B => k_asm); (case hk => (first | assumption | rfl)); (case N => k_asm); (case hd => (first | omega | ((try simp only [depth_deeper, units_deeper, depth_in1, units_in1]); (try dsimp only [ktrTop]); omega))); (case hu => (first | omega | ((try simp only [depth_deeper, units_deeper, depth_in1, units_in1]); (try dsimp only [ktrTop]); omega))); (case h1 => (first | omega | ((try simp only [depth_deeper, units_deeper, depth_in1, units_in1]); (try dsimp only [ktrTop]); omega))); (case hp => (first | omega | ((try simp only [depth_deeper, units_deeper, depth_in1, units_in1]); (try dsimp only [ktrTop]); omega))); (case hz => assumption); (case P1 => k_upd); (case P2 => k_upd); (case P3 => k_upd); (case n1 => (first | assumption | k_ne)); (case n2 => (first | assumption | k_ne)); (case n3 => k_all); k_whole; intro _ _ _ _ F' N')
  | ((with_reducible show wpAny _ _ (call (Value.ref 274) _) _ _ _); refine' full_pk ?B ?F ?X ?T ?hk ?hd ?hu ?hp ?hz ?N ?P1 ?P2 ?P3 ?n1 ?n2 ?n3 ?_; (case F => k_asm); (case X => k_asm); (case T => k_asm); (case B => k_asm); (case hk => (first | assumption | rfl)); (case N => k_asm); (case hd => (first | omega | ((try simp only [depth_deeper, units_deeper, depth_in1, units_in1]); (try dsimp only [ktrTop]); omega))); (case hu => (first | omega | ((try simp only [depth_deeper, units_deeper, depth_in1, units_in1]); (try dsimp only [ktrTop]); omega))); (case hp => (first | omega | ((try simp only [depth_deeper, units_deeper, depth_in1, units_in1]); (try dsimp only [ktrTop]); omega))); (case hz => assumption); (case P1 => k_upd); (case P2 => k_upd); (case P3 => k_upd); (case n1 => (first | assumption | k_ne)); (case n2 => (first | assumption | k_ne)); (case n3 => k_all); k_whole; intro _ _ _ _ F' N'))))
local macro_rules | `(tactic| walk_at "binaryOp Mod str ref") => `(tactic| (k_here; k_dflt (refine' short_mod ?N ?hb ?a ?b ?c ?d ?_; (case N => k_asm); (case hb => k_mem); (case a => omega); (case b => omega); (case c => omega); (case d => omega); k_whole); intro _ _))
local macro_rules | `(tactic| walk_at "exec Raise some none") => `(tactic| (k_here; k_dflt (refine' Raise_eos ?h ?_; (case h => (first | rfl | assumption)); k_whole)))
local macro_rules | `(tactic| walk_at "call ref") => `(tactic| (k_here; (with_reducible show wpAny _ _ (call (Value.ref 1141) [Value.str _ _, Value.int _ _, Value.int _ _]) _ _ _); k_dflt (refine' make_eos ?B ?F ?X ?T ?hk ?hd ?hu ?hm ?N ?_; (case B => k_asm); (case F => k_asm); (case X => k_asm); (case T => k_asm); (case hk => (first | assumption | rfl)); (case N => k_asm); (case hm => exact short_len (by omega) (by omega) (by omega) (by omega)); (case hd => (first | omega | ((try simp only [depth_deeper, units_deeper, depth_in1, units_in1]); (try dsimp only [ktrTop]); omega))); (case hu => (first | omega | ((try simp only [depth_deeper, units_deeper, depth_in1, units_in1]); (try dsimp only [ktrTop]); omega))); k_whole); intro _ _ _ _ _ _ _ _ _ F' N' l1 l2 l3 l4 l5 l6; (have e1 := allLt_ne l1); (have e2 := allLt_ne l2); (have e3 := allLt_ne l3); (refine ⟨_, _, _, rfl, (N' _ (.head _)).1, Frag.In.keeps (by k_asm) (Fr.keep (by k_asm)), ?_⟩)))
local macro_rules | `(tactic| walk_at "leaving ref") => `(tactic| (k_here; first
  | (refine' leave_onD ?k1 ?k2 ?k3 ?k4 ?_; (case k3 => assumption); (case k1 => assumption); (case k4 => assumption); (case k2 => assumption); k_whole; intro h' R' U'; (try dsimp only at R' U' ⊢))
  | (refine' leave_raiseD ?k1 ?k2 ?k3 ?k4 ?_; (case k1 => assumption); (case k2 => k_asm); (case k3 => k_asm); (case k4 => k_all); k_whole; intro h' R' U'; (try dsimp only at R' U' ⊢))))
section
variable {w : World} {p : Program} {loose : List Str} {mean : ExcName → Option Value} {mg mb : Str → Option Value} {dp un : Nat} {gd : Option (List Code)} {cn : Str} {cs : Scope} {a : Addr} {ccd : Value} {cl : List (Str × Addr)} {outer : List Env} {A₀ : Around} {base h₀ : Heap} {L : Addr} {m : Str → Option Value} {s : Shared} {Q E : Value → Shared → Prop}
variable (B : Below A₀ base outer h₀) (F : Fr h₀ L s.heap m) (X : (K w.params).In h₀) (T : Top p loose mean mg mb h₀) (hk : cs.kind = .function)
include B F X T hk
local macro_rules | `(tactic| walk_at "call ref") => `(tactic| (k_here; k_dflt (first
  | ((with_reducible show wpAny _ _ (call (Value.ref 752) _) _ _ _); refine' align_spec ?B ?F ?X ?T ?hk ?hd ?hu ?N0 ?P1 ?P2 ?P3 ?P4 ?P5 ?ap ?_; (case F => k_asm); (case X => k_asm); (case T => k_asm); (case B => k_asm); (case hk => (first | assumption | rfl)); (case N0 => k_asm); (case P1 => k_upd); (case P2 => k_upd); (case P3 => k_upd); (case P4 => k_upd); (case P5 => k_upd); (case ap => (exact Ap.mk (by (first | assumption | k_ne)) (by (first | assumption | k_ne)) (by (first | assumption | k_ne)) (by (first | assumption | k_ne)) (by (first | assumption | k_ne)) (by (first | assumption | k_ne)) (by (first | assumption | k_ne)) (by k_all) (by k_all))); (case hd => (first | omega | ((try simp only [depth_deeper, units_deeper, depth_in1, units_in1]); (try dsimp only [ktrTop]); omega))); (case hu => (first | omega | ((try simp only [depth_deeper, units_deeper, depth_in1, units_in1]); (try dsimp only [ktrTop]); omega))); k_whole; intro _ _ _ _ F' N')
  | ((with_reducible show wpAny _ _ (call (Value.ref 787) _) _ _ _); refine' bytes_shortI ?B ?F ?X ?T ?hk ?hd ?hu ?hp ?hz ?hnI ?hn ?hin ?N0 ?P1 ?P2 ?P3 ?P4 ?P5 ?ap ?_; (case F => k_asm); (case X => k_asm); (case T => k_asm); (case B => k_asm); (case hk => (first | assumption | rfl)); (case N0 => k_asm); (case P1 => k_upd); (case P2 => k_upd); (case P3 => k_upd); (case P4 => k_upd); (case P5 => k_upd); (case ap => (exact Ap.mk (by (first | assumption | k_ne)) (by (first | assumption | k_ne)) (by (first | assumption | k_ne)) (by (first | assumption | k_ne)) (by (first | assumption | k_ne)) (by (first | assumption | k_ne)) (by (first | assumption | k_ne)) (by k_all) (by k_all))); (case hd => (first | omega | ((try simp only [depth_deeper, units_deeper, depth_in1, units_in1]); (try dsimp only [ktrTop]); omega))); (case hu => (first | omega | ((try simp only [depth_deeper, units_deeper, depth_in1, units_in1]); (try dsimp only [ktrTop]); omega))); (case hp => (first | omega | ((try simp only [depth_deeper, units_deeper, depth_in1, units_in1]); (try dsimp only [ktrTop]); omega))); (case hz => assumption); (case hnI => assumption); (case hn => (first | omega | ((try simp only [depth_deeper, units_deeper, depth_in1, units_in1]); (try dsimp only [ktrTop]); omega))); (case hin => assumption); k_whole; intro _ _ _ _ _ _ _ _ _ _ _ _ _ _ _ F' R' U'))))
theorem rbytes_short {σ : Sd} {β : Bd} {y e d : Addr} {b : Array UInt8} {rest : List (Addr × Obj)} {bl bits : Int} {u1 u2 t tn : Tok} {pos n : Nat} (hd : dp + 98 < recursionLimit) (hu : un + 980 < cLine) (hp : pos ≤ 1000000000) (hz : b.size ≤ 16777216) (hn : n ≤ 100000) (hin : (rdB b pos n).size < n)
    {l l1 l2 l3 l4 : List (Addr × Obj)} (N0 : News h₀ L s.heap l) (P1 : Pick (y, instObj 1075 e) l l1) (P2 : Pick (e, sdict w σ (bl) u1 (bits) u2) l1 l2) (P3 : Pick (σ.io, instObj 350 d) l2 l3) (P4 : Pick (d, bdict w β ((pos : Int)) t) l3 l4) (P5 : Pick (β.ba, baObj b) l4 rest) (ap : Ap y e σ.io d β.ba rest)
    (err : ∀ g' h' tk x dx t1 k k2 k3 w1 w2 u3 (v1 v2 t2 : Tok), Fr h₀ L g' m → RaisedD base g' (envX cn cs L a ccd cl :: outer) x dx t1 ((dx, dictOf [ent w (Str.ofString "src_path") k .none, ent w (Str.ofString "bytes_needed") k2 (.int n w1), ent w (Str.ofString "bytes_available") k3 (.int (rdB b pos n).size w2)] 3) :: (t1, tupOne (shortTxt n (rdB b pos n).size) u3) :: ((y, instObj 1075 e) :: (e, sdict w σ (0) v1 (0) v2) :: (σ.io, instObj 350 d) :: (d, bdict w β ((rdP b.size pos n : Nat)) t2) :: (β.ba, baObj b) :: rest)) h' → g'.UpToSlots h' → E (.ref x) { s with heap := h', toks := tk }) :
    wpAny (model prog w) (ktrTop dp un gd cn cs L a ccd cl outer) (call (.ref 780) [.ref y, .int (n : Int) tn]) Q E s := by
  (obtain ⟨ap1, ap2, ap3, ap4, ap5, ap6, ap7, ap8, ap9⟩ := ap); (replace ap1 := neN ap1); (replace ap2 := neN ap2); (replace ap3 := neN ap3); (replace ap4 := neN ap4); (replace ap5 := neN ap5); (replace ap6 := neN ap6); (replace ap7 := neN ap7)
  have N := news_sub N0 (P1.cons (P2.cons (P3.cons (P4.cons (P5.cons sub_self))))); clear N0 P1 P2 P3 P4 P5
  refine wpAny_call ?_
  refine' code_def (binds := [(Str.ofString "self", Value.ref y), (Str.ofString "n", Value.int (n : Int) tn)]) ?k1 ?k2 ?k3 ?k4 ?k5 ?kA ?kF ?kK ?k6 ?k7 ?k8 ?k9 ?kB ?_ ?c2 ?c3 ?c4 ?c5
  case kA => exact rfl
  case kF => exact rfl
  case kK => assumption
  case k1 => k_asm
  case k2 => k_asm
  case k3 => k_asm
  case k4 => k_asm
  case k5 => k_asm
  case k6 => k_dflt k_is
  case k7 => k_dflt k_is
  case k8 => ktr_room
  case k9 => first | exact BindsTo.of_eq rfl | exact binds_K (by k_in) rfl (by k_is) rfl rfl rfl
  case c5 => decide
  case kB => exact locs rfl
  case c2 => exact rfl
  case c3 => exact rfl
  case c4 => exact rfl
  intro g' L' h' FG' F' N' B' X' T'
  (try dsimp only)
  k_fold
  have hnI : (n : Int) = n := rfl
  k_steps
  (rename RaisedD _ _ _ _ _ _ _ _ => R9); (rename Heap.UpToSlots _ _ => U9)
  exact err _ _ _ _ _ _ _ _ _ _ _ _ _ _ _ (by assumption) (R9.sub (by ((repeat refine sub_cons (by k_mem) ?_); (repeat first | exact sub_self | exact sub_nil | refine sub_up ?_)))) U9
local macro_rules | `(tactic| walk_at "call ref") => `(tactic| (k_here; k_dflt (first
  | ((with_reducible show wpAny _ _ (call (Value.ref 780) _) _ _ _); refine' rbytes_short ?B ?F ?X ?T ?hk ?hd ?hu ?hp ?hz ?hn ?hin ?N0 ?P1 ?P2 ?P3 ?P4 ?P5 ?ap ?_; (case F => k_asm); (case X => k_asm); (case T => k_asm); (case B => k_asm); (case hk => (first | assumption | rfl)); (case N0 => k_asm); (case P1 => k_upd); (case P2 => k_upd); (case P3 => k_upd); (case P4 => k_upd); (case P5 => k_upd); (case ap => (exact Ap.mk (by (first | assumption | k_ne)) (by (first | assumption | k_ne)) (by (first | assumption | k_ne)) (by (first | assumption | k_ne)) (by (first | assumption | k_ne)) (by (first | assumption | k_ne)) (by (first | assumption | k_ne)) (by k_all) (by k_all))); (case hd => (first | omega | ((try simp only [depth_deeper, units_deeper, depth_in1, units_in1]); (try dsimp only [ktrTop]); omega))); (case hu => (first | omega | ((try simp only [depth_deeper, units_deeper, depth_in1, units_in1]); (try dsimp only [ktrTop]); omega))); (case hp => (first | omega | ((try simp only [depth_deeper, units_deeper, depth_in1, units_in1]); (try dsimp only [ktrTop]); omega))); (case hz => assumption); (case hn => (first | omega | ((try simp only [depth_deeper, units_deeper, depth_in1, units_in1]); (try dsimp only [ktrTop]); omega))); (case hin => assumption); k_whole; intro _ _ _ _ _ _ _ _ _ _ _ _ _ _ _ F' R' U'))))
theorem u1_short {σ : Sd} {β : Bd} {y e d : Addr} {b : Array UInt8} {rest : List (Addr × Obj)} {bl bits : Int} {u1 u2 t : Tok} {pos : Nat} (hd : dp + 118 < recursionLimit) (hu : un + 1180 < cLine) (hp : pos ≤ 1000000000) (hz : b.size ≤ 16777216) (hin : (rdB b pos 1).size < 1)
    {l l1 l2 l3 l4 : List (Addr × Obj)} (N0 : News h₀ L s.heap l) (P1 : Pick (y, instObj 1075 e) l l1) (P2 : Pick (e, sdict w σ (bl) u1 (bits) u2) l1 l2) (P3 : Pick (σ.io, instObj 350 d) l2 l3) (P4 : Pick (d, bdict w β ((pos : Int)) t) l3 l4) (P5 : Pick (β.ba, baObj b) l4 rest) (ap : Ap y e σ.io d β.ba rest)
    (err : ∀ g' h' tk x dx t1 k k2 k3 w1 w2 u3 (v1 v2 t2 : Tok), Fr h₀ L g' m → RaisedD base g' (envX cn cs L a ccd cl :: outer) x dx t1 ((dx, dictOf [ent w (Str.ofString "src_path") k .none, ent w (Str.ofString "bytes_needed") k2 (.int ((1 : Nat) : Int) w1), ent w (Str.ofString "bytes_available") k3 (.int (rdB b pos 1).size w2)] 3) :: (t1, tupOne (shortTxt ((1 : Nat) : Int) (rdB b pos 1).size) u3) :: ((y, instObj 1075 e) :: (e, sdict w σ (0) v1 (0) v2) :: (σ.io, instObj 350 d) :: (d, bdict w β ((rdP b.size pos 1 : Nat)) t2) :: (β.ba, baObj b) :: rest)) h' → g'.UpToSlots h' → E (.ref x) { s with heap := h', toks := tk }) :
    wpAny (model prog w) (ktrTop dp un gd cn cs L a ccd cl outer) (call (.ref 724) [.ref y]) Q E s := by
  (obtain ⟨ap1, ap2, ap3, ap4, ap5, ap6, ap7, ap8, ap9⟩ := ap); (replace ap1 := neN ap1); (replace ap2 := neN ap2); (replace ap3 := neN ap3); (replace ap4 := neN ap4); (replace ap5 := neN ap5); (replace ap6 := neN ap6); (replace ap7 := neN ap7)
  have N := news_sub N0 (P1.cons (P2.cons (P3.cons (P4.cons (P5.cons sub_self))))); clear N0 P1 P2 P3 P4 P5
  refine wpAny_call ?_
  refine' code_def (binds := [(Str.ofString "self", Value.ref y)]) ?k1 ?k2 ?k3 ?k4 ?k5 ?kA ?kF ?kK ?k6 ?k7 ?k8 ?k9 ?kB ?_ ?c2 ?c3 ?c4 ?c5
  case kA => exact rfl
  case kF => exact rfl
  case kK => assumption
  case k1 => k_asm
  case k2 => k_asm
  case k3 => k_asm
  case k4 => k_asm
  case k5 => k_asm
  case k6 => k_dflt k_is
  case k7 => k_dflt k_is
  case k8 => ktr_room
  case k9 => first | exact BindsTo.of_eq rfl | exact binds_K (by k_in) rfl (by k_is) rfl rfl rfl
  case c5 => decide
  case kB => exact locs rfl
  case c2 => exact rfl
  case c3 => exact rfl
  case c4 => exact rfl
  intro g' L' h' FG' F' N' B' X' T'
  (try dsimp only)
  k_fold
  k_steps
  (rename RaisedD _ _ _ _ _ _ _ _ => R9); (rename Heap.UpToSlots _ _ => U9)
  exact err _ _ _ _ _ _ _ _ _ _ _ _ _ _ _ (by assumption) (R9.sub (by ((repeat refine sub_cons (by k_mem) ?_); (repeat first | exact sub_self | exact sub_nil | refine sub_up ?_)))) U9
local macro_rules | `(tactic| walk_at "call ref") => `(tactic| (k_here; k_dflt (first
  | ((with_reducible show wpAny _ _ (call (Value.ref 787) _) _ _ _); refine' bytes_shortI ?B ?F ?X ?T ?hk ?hd ?hu ?hp ?hz ?hnI ?hn ?hin ?N0 ?P1 ?P2 ?P3 ?P4 ?P5 ?ap ?_; (case F => k_asm); (case X => k_asm); (case T => k_asm); (case B => k_asm); (case hk => (first | assumption | rfl)); (case N0 => k_asm); (case P1 => k_upd); (case P2 => k_upd); (case P3 => k_upd); (case P4 => k_upd); (case P5 => k_upd); (case ap => (exact Ap.mk (by (first | assumption | k_ne)) (by (first | assumption | k_ne)) (by (first | assumption | k_ne)) (by (first | assumption | k_ne)) (by (first | assumption | k_ne)) (by (first | assumption | k_ne)) (by (first | assumption | k_ne)) (by k_all) (by k_all))); (case hd => (first | omega | ((try simp only [depth_deeper, units_deeper, depth_in1, units_in1]); (try dsimp only [ktrTop]); omega))); (case hu => (first | omega | ((try simp only [depth_deeper, units_deeper, depth_in1, units_in1]); (try dsimp only [ktrTop]); omega))); (case hp => (first | omega | ((try simp only [depth_deeper, units_deeper, depth_in1, units_in1]); (try dsimp only [ktrTop]); omega))); (case hz => assumption); (case hnI => assumption); (case hn => (first | omega | ((try simp only [depth_deeper, units_deeper, depth_in1, units_in1]); (try dsimp only [ktrTop]); omega))); (case hin => assumption); k_whole; intro _ _ _ _ _ _ _ _ _ _ _ _ _ _ _ F' R' U'))))
theorem be_short {σ : Sd} {β : Bd} {y e d : Addr} {b : Array UInt8} {rest : List (Addr × Obj)} {bl bits W : Int} {u1 u2 t tn : Tok} {pos n : Nat} (hd : dp + 98 < recursionLimit) (hu : un + 980 < cLine) (hp : pos ≤ 1000000000) (hz : b.size ≤ 16777216)
    (hb0 : 0 ≤ bl) (hb1 : bl < 8) (hv0 : 0 ≤ bits) (hv1 : bits < 256) (hW : W ≤ 18) (hmore : bl < W) (hn : n ≤ 100000) (hnk : (n : Int) = (W - bl - 1).fdiv 8 + 1) (hin : (rdB b pos n).size < n)
    {l l1 l2 l3 l4 : List (Addr × Obj)} (N0 : News h₀ L s.heap l) (P1 : Pick (y, instObj 1075 e) l l1) (P2 : Pick (e, sdict w σ (bl) u1 (bits) u2) l1 l2) (P3 : Pick (σ.io, instObj 350 d) l2 l3) (P4 : Pick (d, bdict w β ((pos : Int)) t) l3 l4) (P5 : Pick (β.ba, baObj b) l4 rest) (ap : Ap y e σ.io d β.ba rest)
    (err : ∀ g' h' tk x dx t1 k k2 k3 w1 w2 u3 (v1 v2 t2 : Tok), Fr h₀ L g' m → RaisedD base g' (envX cn cs L a ccd cl :: outer) x dx t1 ((dx, dictOf [ent w (Str.ofString "src_path") k .none, ent w (Str.ofString "bytes_needed") k2 (.int ((W - bl - 1).fdiv 8 + 1) w1), ent w (Str.ofString "bytes_available") k3 (.int (rdB b pos n).size w2)] 3) :: (t1, tupOne (shortTxt ((W - bl - 1).fdiv 8 + 1) (rdB b pos n).size) u3) :: ((y, instObj 1075 e) :: (e, sdict w σ ((-(W - bl)).fmod 8) v1 (bits) u2) :: (σ.io, instObj 350 d) :: (d, bdict w β ((rdP b.size pos n : Nat)) t2) :: (β.ba, baObj b) :: rest)) h' → g'.UpToSlots h' → E (.ref x) { s with heap := h', toks := tk }) :
    wpAny (model prog w) (ktrTop dp un gd cn cs L a ccd cl outer) (call (.ref 759) [.ref y, .int W tn]) Q E s := by
  (obtain ⟨ap1, ap2, ap3, ap4, ap5, ap6, ap7, ap8, ap9⟩ := ap); (replace ap1 := neN ap1); (replace ap2 := neN ap2); (replace ap3 := neN ap3); (replace ap4 := neN ap4); (replace ap5 := neN ap5); (replace ap6 := neN ap6); (replace ap7 := neN ap7)
  have N := news_sub N0 (P1.cons (P2.cons (P3.cons (P4.cons (P5.cons sub_self))))); clear N0 P1 P2 P3 P4 P5
  refine wpAny_call ?_
  refine' code_def (binds := [(Str.ofString "self", Value.ref y), (Str.ofString "n", Value.int W tn)]) ?k1 ?k2 ?k3 ?k4 ?k5 ?kA ?kF ?kK ?k6 ?k7 ?k8 ?k9 ?kB ?_ ?c2 ?c3 ?c4 ?c5
  case kA => exact rfl
  case kF => exact rfl
  case kK => assumption
  case k1 => k_asm
  case k2 => k_asm
  case k3 => k_asm
  case k4 => k_asm
  case k5 => k_asm
  case k6 => k_dflt k_is
  case k7 => k_dflt k_is
  case k8 => ktr_room
  case k9 => first | exact BindsTo.of_eq rfl | exact binds_K (by k_in) rfl (by k_is) rfl rfl rfl
  case c5 => decide
  case kB => exact locs rfl
  case c2 => exact rfl
  case c3 => exact rfl
  case c4 => exact rfl
  intro g' L' h' FG' F' N' B' X' T'
  (try dsimp only)
  k_fold
  k_steps
  (rename RaisedD _ _ _ _ _ _ _ _ => R9); (rename Heap.UpToSlots _ _ => U9)
  exact err _ _ _ _ _ _ _ _ _ _ _ _ _ 0 _ (by assumption) (R9.sub (by ((repeat refine sub_cons (by k_mem) ?_); (repeat first | exact sub_self | exact sub_nil | refine sub_up ?_)))) U9
theorem le_short {σ : Sd} {β : Bd} {y e d : Addr} {b : Array UInt8} {rest : List (Addr × Obj)} {bl bits W : Int} {u1 u2 t tn : Tok} {pos n : Nat} (hd : dp + 98 < recursionLimit) (hu : un + 980 < cLine) (hp : pos ≤ 1000000000) (hz : b.size ≤ 16777216)
    (hb0 : 0 ≤ bl) (hb1 : bl < 8) (hv0 : 0 ≤ bits) (hv1 : bits < 256) (hW : W ≤ 18) (hmore : bl < W) (hn : n ≤ 100000) (hnk : (n : Int) = (W - bl - 1).fdiv 8 + 1) (hin : (rdB b pos n).size < n)
    {l l1 l2 l3 l4 : List (Addr × Obj)} (N0 : News h₀ L s.heap l) (P1 : Pick (y, instObj 1075 e) l l1) (P2 : Pick (e, sdict w σ (bl) u1 (bits) u2) l1 l2) (P3 : Pick (σ.io, instObj 350 d) l2 l3) (P4 : Pick (d, bdict w β ((pos : Int)) t) l3 l4) (P5 : Pick (β.ba, baObj b) l4 rest) (ap : Ap y e σ.io d β.ba rest)
    (err : ∀ g' h' tk x dx t1 k k2 k3 w1 w2 u3 (v1 v2 t2 : Tok), Fr h₀ L g' m → RaisedD base g' (envX cn cs L a ccd cl :: outer) x dx t1 ((dx, dictOf [ent w (Str.ofString "src_path") k .none, ent w (Str.ofString "bytes_needed") k2 (.int ((W - bl - 1).fdiv 8 + 1) w1), ent w (Str.ofString "bytes_available") k3 (.int (rdB b pos n).size w2)] 3) :: (t1, tupOne (shortTxt ((W - bl - 1).fdiv 8 + 1) (rdB b pos n).size) u3) :: ((y, instObj 1075 e) :: (e, sdict w σ (bl) u1 (bits) u2) :: (σ.io, instObj 350 d) :: (d, bdict w β ((rdP b.size pos n : Nat)) t2) :: (β.ba, baObj b) :: rest)) h' → g'.UpToSlots h' → E (.ref x) { s with heap := h', toks := tk }) :
    wpAny (model prog w) (ktrTop dp un gd cn cs L a ccd cl outer) (call (.ref 773) [.ref y, .int W tn]) Q E s := by
  (obtain ⟨ap1, ap2, ap3, ap4, ap5, ap6, ap7, ap8, ap9⟩ := ap); (replace ap1 := neN ap1); (replace ap2 := neN ap2); (replace ap3 := neN ap3); (replace ap4 := neN ap4); (replace ap5 := neN ap5); (replace ap6 := neN ap6); (replace ap7 := neN ap7)
  have N := news_sub N0 (P1.cons (P2.cons (P3.cons (P4.cons (P5.cons sub_self))))); clear N0 P1 P2 P3 P4 P5
  refine wpAny_call ?_
  refine' code_def (binds := [(Str.ofString "self", Value.ref y), (Str.ofString "n", Value.int W tn)]) ?k1 ?k2 ?k3 ?k4 ?k5 ?kA ?kF ?kK ?k6 ?k7 ?k8 ?k9 ?kB ?_ ?c2 ?c3 ?c4 ?c5
  case kA => exact rfl
  case kF => exact rfl
  case kK => assumption
  case k1 => k_asm
  case k2 => k_asm
  case k3 => k_asm
  case k4 => k_asm
  case k5 => k_asm
  case k6 => k_dflt k_is
  case k7 => k_dflt k_is
  case k8 => ktr_room
  case k9 => first | exact BindsTo.of_eq rfl | exact binds_K (by k_in) rfl (by k_is) rfl rfl rfl
  case c5 => decide
  case kB => exact locs rfl
  case c2 => exact rfl
  case c3 => exact rfl
  case c4 => exact rfl
  intro g' L' h' FG' F' N' B' X' T'
  (try dsimp only)
  k_fold
  k_steps
  (rename RaisedD _ _ _ _ _ _ _ _ => R9); (rename Heap.UpToSlots _ _ => U9)
  exact err _ _ _ _ _ _ _ _ _ _ _ _ 0 0 _ (by assumption) (R9.sub (by ((repeat refine sub_cons (by k_mem) ?_); (repeat first | exact sub_self | exact sub_nil | refine sub_up ?_)))) U9
local macro_rules | `(tactic| walk_at "call ref") => `(tactic| (k_here; k_dflt (first
  | ((with_reducible show wpAny _ _ (call (Value.ref 759) _) _ _ _); refine' be_short ?B ?F ?X ?T ?hk ?hd ?hu ?hp ?hz ?hb0 ?hb1 ?hv0 ?hv1 ?hW ?hmore ?hn ?hnk ?hin ?N0 ?P1 ?P2 ?P3 ?P4 ?P5 ?ap ?_; (case F => k_asm); (case X => k_asm); (case T => k_asm); (case B => k_asm); (case hk => (first | assumption | rfl)); (case N0 => k_asm); (case P1 => k_upd); (case P2 => k_upd); (case P3 => k_upd); (case P4 => k_upd); (case P5 => k_upd); (case ap => (exact Ap.mk (by (first | assumption | k_ne)) (by (first | assumption | k_ne)) (by (first | assumption | k_ne)) (by (first | assumption | k_ne)) (by (first | assumption | k_ne)) (by (first | assumption | k_ne)) (by (first | assumption | k_ne)) (by k_all) (by k_all))); (case hd => (first | omega | ((try simp only [depth_deeper, units_deeper, depth_in1, units_in1]); (try dsimp only [ktrTop]); omega))); (case hu => (first | omega | ((try simp only [depth_deeper, units_deeper, depth_in1, units_in1]); (try dsimp only [ktrTop]); omega))); (case hp => (first | omega | ((try simp only [depth_deeper, units_deeper, depth_in1, units_in1]); (try dsimp only [ktrTop]); omega))); (case hz => assumption); (case hb0 => assumption); (case hb1 => assumption); (case hv0 => assumption); (case hv1 => assumption); (case hW => assumption); (case hmore => assumption); (case hn => (first | omega | ((try simp only [depth_deeper, units_deeper, depth_in1, units_in1]); (try dsimp only [ktrTop]); omega))); (case hnk => assumption); (case hin => assumption); k_whole; intro _ _ _ _ _ _ _ _ _ _ _ _ _ _ _ F' R' U'))))
theorem rb_short {σ : Sd} {β : Bd} {y e d : Addr} {b : Array UInt8} {rest : List (Addr × Obj)} {bl bits W : Int} {u1 u2 t tn : Tok} {pos n : Nat} (hd : dp + 118 < recursionLimit) (hu : un + 1180 < cLine) (hp : pos ≤ 1000000000) (hz : b.size ≤ 16777216)
    (hb0 : 0 ≤ bl) (hb1 : bl < 8) (hv0 : 0 ≤ bits) (hv1 : bits < 256) (hW : W ≤ 18) (hmore : bl < W) (hn : n ≤ 100000) (hnk : (n : Int) = (W - bl - 1).fdiv 8 + 1) (hin : (rdB b pos n).size < n)
    {l l1 l2 l3 l4 : List (Addr × Obj)} (N0 : News h₀ L s.heap l) (P1 : Pick (y, instObj 1075 e) l l1) (P2 : Pick (e, sdict w σ (bl) u1 (bits) u2) l1 l2) (P3 : Pick (σ.io, instObj 350 d) l2 l3) (P4 : Pick (d, bdict w β ((pos : Int)) t) l3 l4) (P5 : Pick (β.ba, baObj b) l4 rest) (ap : Ap y e σ.io d β.ba rest)
    (err : ∀ g' h' tk x dx t1 k k2 k3 w1 w2 u3 (v1 v2 t2 : Tok), Fr h₀ L g' m → RaisedD base g' (envX cn cs L a ccd cl :: outer) x dx t1 ((dx, dictOf [ent w (Str.ofString "src_path") k .none, ent w (Str.ofString "bytes_needed") k2 (.int ((W - bl - 1).fdiv 8 + 1) w1), ent w (Str.ofString "bytes_available") k3 (.int (rdB b pos n).size w2)] 3) :: (t1, tupOne (shortTxt ((W - bl - 1).fdiv 8 + 1) (rdB b pos n).size) u3) :: ((y, instObj 1075 e) :: (e, sdict w σ ((-(W - bl)).fmod 8) v1 (bits) u2) :: (σ.io, instObj 350 d) :: (d, bdict w β ((rdP b.size pos n : Nat)) t2) :: (β.ba, baObj b) :: rest)) h' → g'.UpToSlots h' → E (.ref x) { s with heap := h', toks := tk }) :
    wpAny (model prog w) (ktrTop dp un gd cn cs L a ccd cl outer) (call (.ref 766) [.ref y, .int W tn]) Q E s := by
  (obtain ⟨ap1, ap2, ap3, ap4, ap5, ap6, ap7, ap8, ap9⟩ := ap); (replace ap1 := neN ap1); (replace ap2 := neN ap2); (replace ap3 := neN ap3); (replace ap4 := neN ap4); (replace ap5 := neN ap5); (replace ap6 := neN ap6); (replace ap7 := neN ap7)
  have N := news_sub N0 (P1.cons (P2.cons (P3.cons (P4.cons (P5.cons sub_self))))); clear N0 P1 P2 P3 P4 P5
  refine wpAny_call ?_
  refine' code_def (binds := [(Str.ofString "self", Value.ref y), (Str.ofString "n", Value.int W tn)]) ?k1 ?k2 ?k3 ?k4 ?k5 ?kA ?kF ?kK ?k6 ?k7 ?k8 ?k9 ?kB ?_ ?c2 ?c3 ?c4 ?c5
  case kA => exact rfl
  case kF => exact rfl
  case kK => assumption
  case k1 => k_asm
  case k2 => k_asm
  case k3 => k_asm
  case k4 => k_asm
  case k5 => k_asm
  case k6 => k_dflt k_is
  case k7 => k_dflt k_is
  case k8 => ktr_room
  case k9 => first | exact BindsTo.of_eq rfl | exact binds_K (by k_in) rfl (by k_is) rfl rfl rfl
  case c5 => decide
  case kB => exact locs rfl
  case c2 => exact rfl
  case c3 => exact rfl
  case c4 => exact rfl
  intro g' L' h' FG' F' N' B' X' T'
  (try dsimp only)
  k_fold
  k_steps
  (rename RaisedD _ _ _ _ _ _ _ _ => R9); (rename Heap.UpToSlots _ _ => U9)
  exact err _ _ _ _ _ _ _ _ _ _ _ _ _ 0 _ (by assumption) (R9.sub (by ((repeat refine sub_cons (by k_mem) ?_); (repeat first | exact sub_self | exact sub_nil | refine sub_up ?_)))) U9
end
end Mine
end
section
open PySem PySem.W PySem.Calls PyProof.Rows PySem.Spec
set_option maxRecDepth 100000
set_option maxHeartbeats 8000000
namespace Mine
theorem resetEb {M : Model} {A : Around} {env : Env} {x : Str} {v : Value} {Q : Unit → Shared → Prop} {E : Value → Shared → Prop} {s : Shared} (h : wpAny M A (storeName env x v) Q E s) : wpAny M A (storeName env x v) Q E s := by
  w_top off
  k_with_none
  first
    | (walk1; fail)
    | exact h
local macro_rules | `(tactic| k_upd) => `(tactic| first | exact Pick.head | (refine' Pick.tail ?pp; (case pp => k_upd)))
local macro_rules | `(tactic| k_all) => `(tactic| assumption)
local macro_rules | `(tactic| k_room) => `(tactic| ktr_room)
local macro_rules | `(tactic| walk_at "call type:type") => `(tactic| refine call_type_of (PySem.W.typeIs_bytes _ _ _) (by decide +kernel) ?_)
local macro_rules | `(tactic| walk_at "call builtin:len") => `(tactic| (k_here; (with_reducible show wpAny _ _ (call (Value.builtin "len") [Value.ref _]) _ _ _); k_dflt (refine' len_baN ?N ?m ?z ?_; (case N => k_asm); (case m => k_mem); (case z => (first | assumption | exact Nat.le_trans (KBc.size_picked_le _ _ _) (by assumption))); k_whole); intro _ _))
local macro_rules | `(tactic| walk_at "call type:bytes") => `(tactic| (k_here; (with_reducible show wpAny _ _ (call (Value.type "bytes") [Value.ref _]) _ _ _); k_dflt (refine' bytes_baN ?N ?m ?z ?_; (case N => k_asm); (case m => k_mem); (case z => (first | assumption | exact Nat.le_trans (KBc.size_picked_le _ _ _) (by assumption))); k_whole); intro _ _))
local macro_rules | `(tactic| walk_at "subscriptTail") => `(tactic| (k_here; (with_reducible show wpAny _ _ (subscriptTail _ (Expr.Slice _ _ none _) (Value.ref _) (Value.ref _)) _ _ _); (with_reducible rename Fr _ _ _ _ => F'); (with_reducible rename News _ _ _ _ => N'); (refine cut_baN (s := ⟨_, _, _, _, _⟩) F' N' (by k_mem) (by constructor) (by constructor) (by (first | assumption | exact Nat.le_trans (KBc.size_picked_le _ _ _) (by assumption))) ?_); intro _ _ _ _ _))
local macro_rules | `(tactic| walk_at "call builtin:len") => `(tactic| (k_here; (with_reducible show wpAny _ _ (call (Value.builtin "len") [Value.bytes (rdB _ _ _) _]) _ _ _); refine len_bytes (Nat.le_trans rdB_le (by omega)) ?_))
local macro_rules | `(tactic| walk_at "call builtin:_struct.unpack") => `(tactic| (k_here; k_dflt (refine' unpackBN ?F ?N ?hb ?_; (case F => k_asm); (case N => k_asm); (case hb => assumption); k_whole); intro _ _ _ _ F' N' l1; (try k_lt l1)))
local macro_rules | `(tactic| walk_at "call type:enumerate") => `(tactic| (k_here; (with_reducible show wpAny _ _ (call (Value.type _) [Value.bytes _ _]) _ _ _); k_dflt (refine' call_enumB rfl ?hk ?F ?N ?_; (case hk => assumption); (case F => k_asm); (case N => k_asm); k_whole); intro _ _ F' N' S'))
local macro_rules | `(tactic| walk_at "pyReprObj bytes") => `(tactic| (k_here; (refine repr_bytes (by first | assumption | exact Nat.le_trans rdB_le (by omega)) (by first | assumption | exact literal_le (by first | omega | exact Nat.le_trans rdB_le (by omega))) ?_)))
/-- the words of a row that is another one -/
def badTxt (a b : Array UInt8) : Str := Str.ofString "unexpected fixed contents: got " ++ PySem.Builtin.Bytes.literal a ++ Str.ofString ", was waiting for " ++ PySem.Builtin.Bytes.literal b
theorem RaisedS.sub {base G h : Heap} {l : List Env} {e t : Addr} {cls : Value} {vs : List Value} {n1 n2 : List (Addr × Obj)} (R : RaisedS base G l e cls t vs n1 h) (hs : ∀ p ∈ n2, p ∈ n1) : RaisedS base G l e cls t vs n2 h := by
  obtain ⟨⟨B, hB, hBG, hl, hfl, hn⟩, ht⟩ := R
  exact ⟨⟨B, hB, hBG, fun q hq => hl q (hs q hq), hfl, hn⟩, ht⟩
local macro_rules | `(tactic| walk_at "exec Raise some none") => `(tactic| (k_here; k_dflt (refine' Raise_madeB PySem.F.excCall_Exception PySem.F.excRaise_Exception ?h ?_; (case h => rfl); k_whole; refine' name_B ?F ?X ?T ?e PyProof.Rows.Boot.«Exception» ?n ⟨rfl, ?_⟩; (case F => k_asm); (case X => k_asm); (case T => k_asm); (case e => k_is); (case n => decide +kernel); k_whole)))
local macro_rules | `(tactic| walk_at "leaving ref") => `(tactic| (k_here; (refine' leave_raiseS ?k1 (Heap.MadeExc.of (by assumption)) ?k2 ?k3 ?_; (case k1 => assumption); (case k2 => assumption); (case k3 => k_asm); k_whole; intro h' t' R' RK U'; (try dsimp only at R' U' ⊢))))
section
variable {w : World} {p : Program} {loose : List Str} {mean : ExcName → Option Value} {mg mb : Str → Option Value} {dp un : Nat} {gd : Option (List Code)} {cn : Str} {cs : Scope} {a : Addr} {ccd : Value} {cl : List (Str × Addr)} {outer : List Env} {A₀ : Around} {base h₀ : Heap} {L : Addr} {m : Str → Option Value} {s : Shared} {Q E : Value → Shared → Prop}
variable (B : Below A₀ base outer h₀) (F : Fr h₀ L s.heap m) (X : (K w.params).In h₀) (T : Top p loose mean mg mb h₀) (hk : cs.kind = .function)
include B F X T hk
local macro_rules | `(tactic| walk_at "call ref") => `(tactic| (k_here; k_dflt (first
  | ((with_reducible show wpAny _ _ (call (Value.ref 250) _) _ _ _); refine' tell_pk ?B ?F ?X ?T ?hk ?hd ?hu ?N ?P1 ?P2 ?_; (case F => k_asm); (case X => k_asm); (case T => k_asm); (case B => k_asm); (case hk => (first | assumption | rfl)); (case N => k_asm); (case hd => (first | omega | ((try simp only [depth_deeper, units_deeper, depth_in1, units_in1]); (try dsimp only [ktrTop]); omega))); (case hu => (first | omega | ((try simp only [depth_deeper, units_deeper, depth_in1, units_in1]); (try dsimp only [ktrTop]); omega))); (case P1 => k_upd); (case P2 => k_upd); k_whole; intro _ _ _ F' N')
  | ((with_reducible show wpAny _ _ (call (Value.ref 258) _) _ _ _); refine' end_pk ?B ?F ?X ?T ?hk ?hd ?hu ?hz ?N ?P1 ?P2 ?P3 ?n1 ?n2 ?n3 ?_; (case F => k_asm); (case X => k_asm); (case T => k_asm); (case B => k_asm); (case hk => (first | assumption | rfl)); (case N => k_asm); (case hd => (first | omega | ((try simp only [depth_deeper, units_deeper, depth_in1, units_in1]); (try dsimp only [ktrTop]); omega))); (case hu => (first | omega | ((try simp only [depth_deeper, units_deeper, depth_in1, units_in1]); (try dsimp only [ktrTop]); omega))); (case hz => assumption); (case P1 => k_upd); (case P2 => k_upd); (case P3 => k_upd); (case n1 => (first | assumption | k_ne)); (case n2 => (first | assumption | k_ne)); (case n3 => k_all); k_whole; intro _ _ _ _ F' N')
  | ((with_reducible show wpAny _ _ (call (Value.ref 258) _) _ _ _); refine' seek_pk ?B ?F ?X ?T ?hk ?hd ?hu ?h0 ?h1 ?N ?P1 ?P2 ?n1 ?n3 ?_; (case F => k_asm); (case X => k_asm); (case T => k_asm); (case B => k_asm); (case hk => (first | assumption | rfl)); (case N => k_asm); (case hd => (first | omega | ((try simp only [depth_deeper, units_deeper, depth_in1, units_in1]); (try dsimp only [ktrTop]); omega))); (case hu => (first | omega | ((try simp only [depth_deeper, units_deeper, depth_in1, units_in1]); (try dsimp only [ktrTop]); omega))); (case h0 => (first | omega | ((try simp only [depth_deeper, units_deeper, depth_in1, units_in1]); (try dsimp only [ktrTop]); omega))); (case h1 => (first | omega | ((try simp only [depth_deeper, units_deeper, depth_in1, units_in1]); (try dsimp only [ktrTop]); omega))); (case P1 => k_upd); (case P2 => k_upd); (case n1 => (first | assumption | k_ne)); (case n3 => k_all); k_whole; intro _ _ _ _ F' N')
  | ((with_reducible show wpAny _ _ (call (Value.ref 274) _) _ _ _); refine' read_pk ?B ?F ?X ?T ?hk ?hd ?hu ?h1 ?hp ?hz ?N ?P1 ?P2 ?P3 ?n1 ?n2 ?n3 ?_; (case F => k_asm); (case X => k_asm); (case T => k_asm); (case B => k_asm); (case hk => (first | assumption | rfl)); (case N => k_asm); (case hd => (first | omega | ((try simp only [depth_deeper, units_deeper, depth_in1, units_in1]); (try dsimp only [ktrTop]); omega))); (case hu => (first | omega | ((try simp only [depth_deeper, units_deeper, depth_in1, units_in1]); (try dsimp only [ktrTop]); omega))); (case h1 => (first | omega | ((try simp only [depth_deeper, units_deeper, depth_in1, units_in1]); (try dsimp only [ktrTop]); omega))); (case hp => (first | omega | ((try simp only [depth_deeper, units_deeper, depth_in1, units_in1]); (try dsimp only [ktrTop]); omega))); (case hz => assumption); (case P1 => k_upd); (case P2 => k_upd); (case P3 => k_upd); (case n1 => (first | assumption | k_ne)); (case n2 => (first | assumption | k_ne)); (case n3 => k_all); k_whole; intro _ _ _ _ F' N')
  | ((with_reducible show wpAny _ _ (call (Value.ref 274) _) _ _ _); refine' full_pk ?B ?F ?X ?T ?hk ?hd ?hu ?hp ?hz ?N ?P1 ?P2 ?P3 ?n1 ?n2 ?n3 ?_; (case F => k_asm); (case X => k_asm); (case T => k_asm); (case B => k_asm); (case hk => (first | assumption | rfl)); (case N => k_asm); (case hd => (first | omega | ((try simp only [depth_deeper, units_deeper, depth_in1, units_in1]); (try dsimp only [ktrTop]); omega))); (case hu => (first | omega | ((try simp only [depth_deeper, units_deeper, depth_in1, units_in1]); (try dsimp only [ktrTop]); omega))); (case hp => (first | omega | ((try simp only [depth_deeper, units_deeper, depth_in1, units_in1]); (try dsimp only [ktrTop]); omega))); (case hz => assumption); (case P1 => k_upd); (case P2 => k_upd); (case P3 => k_upd); (case n1 => (first | assumption | k_ne)); (case n2 => (first | assumption | k_ne)); (case n3 => k_all); k_whole; intro _ _ _ _ F' N'))))
theorem ens_bad {σ : Sd} {β : Bd} {y e d : Addr} {b : Array UInt8} {rest : List (Addr × Obj)} {bl bits : Int} {u1 u2 t tn : Tok} {pos : Nat} {x : Array UInt8} (hd : dp + 38 < recursionLimit) (hu : un + 380 < cLine) (hp : pos ≤ 1000000000) (hz : b.size ≤ 16777216) (hx : x.size ≤ 1000) (hne : ((rdB b pos x.size).toList != x.toList) = true) (hl1 : (PySem.Builtin.Bytes.literal (rdB b pos x.size)).length ≤ 5000) (hl2 : (PySem.Builtin.Bytes.literal x).length ≤ 5000)
    {l l1 l2 l3 l4 : List (Addr × Obj)} (N0 : News h₀ L s.heap l) (P1 : Pick (y, instObj 1075 e) l l1) (P2 : Pick (e, sdict w σ (bl) u1 (bits) u2) l1 l2) (P3 : Pick (σ.io, instObj 350 d) l2 l3) (P4 : Pick (d, bdict w β ((pos : Int)) t) l3 l4) (P5 : Pick (β.ba, baObj b) l4 rest) (ap : Ap y e σ.io d β.ba rest)
    (err : ∀ g' h' tk z t1 u3 t2, Fr h₀ L g' m → RaisedS base g' (envX cn cs L a ccd cl :: outer) z (.type "Exception") t1 [.str (badTxt (rdB b pos x.size) x) u3] ((y, instObj 1075 e) :: (e, sdict w σ (bl) u1 (bits) u2) :: (σ.io, instObj 350 d) :: (d, bdict w β ((rdP b.size pos x.size : Nat)) t2) :: (β.ba, baObj b) :: rest) h' → g'.UpToSlots h' → E (.ref z) { s with heap := h', toks := tk }) :
    wpAny (model prog w) (ktrTop dp un gd cn cs L a ccd cl outer) (call (.ref 815) [.ref y, .bytes x tn]) Q E s := by
  (obtain ⟨ap1, ap2, ap3, ap4, ap5, ap6, ap7, ap8, ap9⟩ := ap); (replace ap1 := neN ap1); (replace ap2 := neN ap2); (replace ap3 := neN ap3); (replace ap4 := neN ap4); (replace ap5 := neN ap5); (replace ap6 := neN ap6); (replace ap7 := neN ap7)
  have N := news_sub N0 (P1.cons (P2.cons (P3.cons (P4.cons (P5.cons sub_self))))); clear N0 P1 P2 P3 P4 P5
  refine wpAny_call ?_
  refine' code_def (binds := [(Str.ofString "self", Value.ref y), (Str.ofString "expected", Value.bytes x tn)]) ?k1 ?k2 ?k3 ?k4 ?k5 ?kA ?kF ?kK ?k6 ?k7 ?k8 ?k9 ?kB ?_ ?c2 ?c3 ?c4 ?c5
  case kA => exact rfl
  case kF => exact rfl
  case kK => assumption
  case k1 => k_asm
  case k2 => k_asm
  case k3 => k_asm
  case k4 => k_asm
  case k5 => k_asm
  case k6 => k_dflt k_is
  case k7 => k_dflt k_is
  case k8 => ktr_room
  case k9 => first | exact BindsTo.of_eq rfl | exact binds_K (by k_in) rfl (by k_is) rfl rfl rfl
  case c5 => decide
  case kB => exact locs rfl
  case c2 => exact rfl
  case c3 => exact rfl
  case c4 => exact rfl
  intro g' L' h' FG' F' N' B' X' T'
  (try dsimp only)
  k_fold
  have hl3 : (PySem.Builtin.Bytes.literal (rdB b pos x.size)).length ≤ sizeLine := by rw [sizeLine_eq]; omega
  have hl4 : (PySem.Builtin.Bytes.literal x).length ≤ sizeLine := by rw [sizeLine_eq]; omega
  have hx5 : x.size ≤ 100000 := by omega
  k_steps
  rename RaisedS _ _ _ _ _ _ _ _ _ => R9
  rename Heap.UpToSlots _ _ => U9
  rw [Str.empty_append] at R9
  exact err _ _ _ _ _ _ _ (by assumption) (RaisedS.sub R9 (by ((repeat refine sub_cons (by k_mem) ?_); (repeat first | exact sub_self | exact sub_nil | refine sub_up ?_)))) U9
end
end Mine
end
section
open PySem PySem.W PySem.Calls PyProof.Rows PySem.Spec
set_option maxRecDepth 100000
set_option maxHeartbeats 8000000
namespace Mine
theorem resetEnsC {M : Model} {A : Around} {env : Env} {x : Str} {v : Value} {Q : Unit → Shared → Prop} {E : Value → Shared → Prop} {s : Shared} (h : wpAny M A (storeName env x v) Q E s) : wpAny M A (storeName env x v) Q E s := by
  w_top off
  k_with_none
  first
    | (walk1; fail)
    | exact h
local macro_rules | `(tactic| k_upd) => `(tactic| first | exact Pick.head | (refine' Pick.tail ?pp; (case pp => k_upd)))
local macro_rules | `(tactic| k_all) => `(tactic| assumption)
local macro_rules | `(tactic| k_room) => `(tactic| ktr_room)
local macro_rules | `(tactic| walk_at "call type:type") => `(tactic| refine call_type_of (PySem.W.typeIs_bytes _ _ _) (by decide +kernel) ?_)
local macro_rules | `(tactic| walk_at "call builtin:len") => `(tactic| (k_here; (with_reducible show wpAny _ _ (call (Value.builtin "len") [Value.ref _]) _ _ _); k_dflt (refine' len_baN ?N ?m ?z ?_; (case N => k_asm); (case m => k_mem); (case z => (first | assumption | exact Nat.le_trans (KBc.size_picked_le _ _ _) (by assumption))); k_whole); intro _ _))
local macro_rules | `(tactic| walk_at "call type:bytes") => `(tactic| (k_here; (with_reducible show wpAny _ _ (call (Value.type "bytes") [Value.ref _]) _ _ _); k_dflt (refine' bytes_baN ?N ?m ?z ?_; (case N => k_asm); (case m => k_mem); (case z => (first | assumption | exact Nat.le_trans (KBc.size_picked_le _ _ _) (by assumption))); k_whole); intro _ _))
local macro_rules | `(tactic| walk_at "subscriptTail") => `(tactic| (k_here; (with_reducible show wpAny _ _ (subscriptTail _ (Expr.Slice _ _ none _) (Value.ref _) (Value.ref _)) _ _ _); (with_reducible rename Fr _ _ _ _ => F'); (with_reducible rename News _ _ _ _ => N'); (refine cut_baN (s := ⟨_, _, _, _, _⟩) F' N' (by k_mem) (by constructor) (by constructor) (by (first | assumption | exact Nat.le_trans (KBc.size_picked_le _ _ _) (by assumption))) ?_); intro _ _ _ _ _))
local macro_rules | `(tactic| walk_at "call builtin:len") => `(tactic| (k_here; (with_reducible show wpAny _ _ (call (Value.builtin "len") [Value.bytes (rdB _ _ _) _]) _ _ _); refine len_bytes (Nat.le_trans rdB_le (by omega)) ?_))
local macro_rules | `(tactic| walk_at "call builtin:_struct.unpack") => `(tactic| (k_here; k_dflt (refine' unpackBN ?F ?N ?hb ?_; (case F => k_asm); (case N => k_asm); (case hb => assumption); k_whole); intro _ _ _ _ F' N' l1; (try k_lt l1)))
local macro_rules | `(tactic| walk_at "call type:enumerate") => `(tactic| (k_here; (with_reducible show wpAny _ _ (call (Value.type _) [Value.bytes _ _]) _ _ _); k_dflt (refine' call_enumB rfl ?hk ?F ?N ?_; (case hk => assumption); (case F => k_asm); (case N => k_asm); k_whole); intro _ _ F' N' S'))
local macro_rules | `(tactic| walk_at "pyReprObj bytes") => `(tactic| (k_here; (refine repr_bytes (by first | assumption | exact Nat.le_trans rdB_le (by omega)) (by first | assumption | exact literal_le (by first | omega | exact Nat.le_trans rdB_le (by omega))) ?_)))
section
variable {w : World} {p : Program} {loose : List Str} {mean : ExcName → Option Value} {mg mb : Str → Option Value} {dp un : Nat} {gd : Option (List Code)} {cn : Str} {cs : Scope} {a : Addr} {ccd : Value} {cl : List (Str × Addr)} {outer : List Env} {A₀ : Around} {base h₀ : Heap} {L : Addr} {m : Str → Option Value} {s : Shared} {Q E : Value → Shared → Prop}
variable (B : Below A₀ base outer h₀) (F : Fr h₀ L s.heap m) (X : (K w.params).In h₀) (T : Top p loose mean mg mb h₀) (hk : cs.kind = .function)
include B F X T hk
theorem ens_okW {σ : Sd} {β : Bd} {y e d : Addr} {b : Array UInt8} {rest : List (Addr × Obj)} {bl bits : Int} {u1 u2 t tn : Tok} {pos : Nat} {x : Array UInt8} (hd : dp + 38 < recursionLimit) (hu : un + 380 < cLine) (hp : pos ≤ 1000000000) (hz : b.size ≤ 16777216) (hx : x.size ≤ 1000) (heq : rdB b pos x.size = x)
    {l l1 l2 l3 l4 : List (Addr × Obj)} (N0 : News h₀ L s.heap l) (P1 : Pick (y, instObj 1075 e) l l1) (P2 : Pick (e, sdict w σ (bl) u1 (bits) u2) l1 l2) (P3 : Pick (σ.io, instObj 350 d) l2 l3) (P4 : Pick (d, bdict w β ((pos : Int)) t) l3 l4) (P5 : Pick (β.ba, baObj b) l4 rest) (ap : Ap y e σ.io d β.ba rest)
    (ret : ∀ h' tk t1 t4, Fr h₀ L h' m → News h₀ L h' ((y, instObj 1075 e) :: (e, sdict w σ (bl) u1 (bits) u2) :: (σ.io, instObj 350 d) :: (d, bdict w β ((rdP b.size pos x.size : Nat)) t1) :: (β.ba, baObj b) :: rest) → Q (.bytes x t4) { s with heap := h', toks := tk }) :
    wpAny (model prog w) (ktrTop dp un gd cn cs L a ccd cl outer) (call (.ref 815) [.ref y, .bytes x tn]) Q E s := by
  first | exact ens_ok B F X T hk hd hu hp hz hx heq N0 P1 P2 P3 P4 P5 ap ret | exact ens_ok (n := 0) B F X T hk hd hu hp hz hx heq N0 P1 P2 P3 P4 P5 ap ret
theorem ens_badW {σ : Sd} {β : Bd} {y e d : Addr} {b : Array UInt8} {rest : List (Addr × Obj)} {bl bits : Int} {u1 u2 t tn : Tok} {pos : Nat} {x : Array UInt8} (hd : dp + 38 < recursionLimit) (hu : un + 380 < cLine) (hp : pos ≤ 1000000000) (hz : b.size ≤ 16777216) (hx : x.size ≤ 1000) (hne : ((rdB b pos x.size).toList != x.toList) = true) (hl1 : (PySem.Builtin.Bytes.literal (rdB b pos x.size)).length ≤ 5000) (hl2 : (PySem.Builtin.Bytes.literal x).length ≤ 5000)
    {l l1 l2 l3 l4 : List (Addr × Obj)} (N0 : News h₀ L s.heap l) (P1 : Pick (y, instObj 1075 e) l l1) (P2 : Pick (e, sdict w σ (bl) u1 (bits) u2) l1 l2) (P3 : Pick (σ.io, instObj 350 d) l2 l3) (P4 : Pick (d, bdict w β ((pos : Int)) t) l3 l4) (P5 : Pick (β.ba, baObj b) l4 rest) (ap : Ap y e σ.io d β.ba rest)
    (err : ∀ g' h' tk z t1 u3 t2, Fr h₀ L g' m → RaisedS base g' (envX cn cs L a ccd cl :: outer) z (.type "Exception") t1 [.str (badTxt (rdB b pos x.size) x) u3] ((y, instObj 1075 e) :: (e, sdict w σ (bl) u1 (bits) u2) :: (σ.io, instObj 350 d) :: (d, bdict w β ((rdP b.size pos x.size : Nat)) t2) :: (β.ba, baObj b) :: rest) h' → g'.UpToSlots h' → E (.ref z) { s with heap := h', toks := tk }) :
    wpAny (model prog w) (ktrTop dp un gd cn cs L a ccd cl outer) (call (.ref 815) [.ref y, .bytes x tn]) Q E s := by
  first | exact ens_bad B F X T hk hd hu hp hz hx hne hl1 hl2 N0 P1 P2 P3 P4 P5 ap err | exact ens_bad (n := 0) B F X T hk hd hu hp hz hx hne hl1 hl2 N0 P1 P2 P3 P4 P5 ap err
end
end Mine
end
section
open PySem PySem.W PySem.Calls PyProof.Rows PySem.Spec
set_option maxRecDepth 100000
set_option maxHeartbeats 8000000
namespace Mine
theorem resetGet {M : Model} {A : Around} {env : Env} {x : Str} {v : Value} {Q : Unit → Shared → Prop} {E : Value → Shared → Prop} {s : Shared} (h : wpAny M A (storeName env x v) Q E s) : wpAny M A (storeName env x v) Q E s := by
  w_top off
  k_with_none
  first
    | (walk1; fail)
    | exact h
local macro_rules | `(tactic| k_upd) => `(tactic| first | exact Pick.head | (refine' Pick.tail ?pp; (case pp => k_upd)))
local macro_rules | `(tactic| k_all) => `(tactic| assumption)
local macro_rules | `(tactic| k_room) => `(tactic| ktr_room)
local macro_rules | `(tactic| walk_at "call type:type") => `(tactic| refine call_type_of (PySem.W.typeIs_bytes _ _ _) (by decide +kernel) ?_)
local macro_rules | `(tactic| walk_at "call builtin:len") => `(tactic| (k_here; (with_reducible show wpAny _ _ (call (Value.builtin "len") [Value.ref _]) _ _ _); k_dflt (refine' len_baN ?N ?m ?z ?_; (case N => k_asm); (case m => k_mem); (case z => (first | assumption | exact Nat.le_trans (KBc.size_picked_le _ _ _) (by assumption))); k_whole); intro _ _))
local macro_rules | `(tactic| walk_at "call type:bytes") => `(tactic| (k_here; (with_reducible show wpAny _ _ (call (Value.type "bytes") [Value.ref _]) _ _ _); k_dflt (refine' bytes_baN ?N ?m ?z ?_; (case N => k_asm); (case m => k_mem); (case z => (first | assumption | exact Nat.le_trans (KBc.size_picked_le _ _ _) (by assumption))); k_whole); intro _ _))
local macro_rules | `(tactic| walk_at "subscriptTail") => `(tactic| (k_here; (with_reducible show wpAny _ _ (subscriptTail _ (Expr.Slice _ _ none _) (Value.ref _) (Value.ref _)) _ _ _); (with_reducible rename Fr _ _ _ _ => F'); (with_reducible rename News _ _ _ _ => N'); (refine cut_baN (s := ⟨_, _, _, _, _⟩) F' N' (by k_mem) (by constructor) (by constructor) (by (first | assumption | exact Nat.le_trans (KBc.size_picked_le _ _ _) (by assumption))) ?_); intro _ _ _ _ _))
local macro_rules | `(tactic| walk_at "call builtin:len") => `(tactic| (k_here; (with_reducible show wpAny _ _ (call (Value.builtin "len") [Value.bytes (rdB _ _ _) _]) _ _ _); refine len_bytes (Nat.le_trans rdB_le (by omega)) ?_))
local macro_rules | `(tactic| walk_at "call builtin:_struct.unpack") => `(tactic| (k_here; k_dflt (refine' unpackBN ?F ?N ?hb ?_; (case F => k_asm); (case N => k_asm); (case hb => assumption); k_whole); intro _ _ _ _ F' N' l1; (try k_lt l1)))
local macro_rules | `(tactic| walk_at "call type:enumerate") => `(tactic| (k_here; (with_reducible show wpAny _ _ (call (Value.type _) [Value.bytes _ _]) _ _ _); k_dflt (refine' call_enumB rfl ?hk ?F ?N ?_; (case hk => assumption); (case F => k_asm); (case N => k_asm); k_whole); intro _ _ F' N' S'))
local macro_rules | `(tactic| walk_at "pyReprObj bytes") => `(tactic| (k_here; (refine repr_bytes (by first | assumption | exact Nat.le_trans rdB_le (by omega)) (by first | assumption | exact literal_le (by first | omega | exact Nat.le_trans rdB_le (by omega))) ?_)))
theorem pe_ga (P : Params) (p : Program) : peek (K P) ⟨p, P⟩ (typeLookup (.ref 1141) "__getattribute__") = some (some (.builtin "BaseException.__getattribute__")) := by kernel_rfl
theorem pe_gat (P : Params) (p : Program) : peek (K P) ⟨p, P⟩ (typeLookup (.ref 1141) "__getattr__") = some none := by kernel_rfl
theorem pe_str (P : Params) (p : Program) : peek (K P) ⟨p, P⟩ (typeLookup (.ref 1141) "__str__") = some (some (.builtin "BaseException.__str__")) := by kernel_rfl
theorem pe_hasDict (P : Params) : hasDictIn (K P) 1141 = true := by kernel_rfl
theorem ga_kind : builtinKind "BaseException.__getattribute__" = some .slot := by kernel_rfl
theorem ga_split : splitId "BaseException.__getattribute__" = some ("BaseException", "__getattribute__") := by kernel_rfl
theorem bs_kind : builtinKind "BaseException.__str__" = some .slot := by kernel_rfl
theorem bs_split : splitId "BaseException.__str__" = some ("BaseException", "__str__") := by kernel_rfl
section
variable {prog : Program} {w : World} {A : Around} {E : Value → Shared → Prop} {s : Shared} {h₀ : Heap} {L : Addr} {m : Str → Option Value} {x t dx : Addr} {oe : Obj} {l : List (Addr × Obj)}
theorem eos_inst {es : List DictEntry} {n : Nat} {h : Heap} (N : News h₀ L h l) (hO : EosO oe t dx) (he : (x, oe) ∈ l) (hd : (dx, dictOf es n) ∈ l) : InstAt h x oe 1141 (some (dictOf es n)) := by
  obtain ⟨h1, h2, ws, h3, _⟩ := hO
  refine ⟨(N _ he).1, h1, by unfold notCls; rw [h3], ?_⟩
  rw [h2]
  exact (N _ hd).1
theorem get_eos {name : Str} {v : Value} {es : List DictEntry} {n : Nat} {expr : Bool} {Q : Value → Shared → Prop} (F : Fr h₀ L s.heap m) (X₀ : (K w.params).In h₀) (N : News h₀ L s.heap l) (hO : EosO oe t dx) (he : (x, oe) ∈ l) (hd : (dx, dictOf es n) ∈ l)
    (hn : findIn (K w.params) (.ref 1141) name = some none) (hl : getL name es = some (some v)) (hh : handedIn v = true) (h : Q v { s with toks := s.toks + 1 }) : wpAny (model prog w) A (getAttr (.ref x) name expr) Q E s := by
  have X := X₀.keeps F.keep
  have I := eos_inst N hO he hd
  obtain ⟨hp, g, d, tk, os⟩ := s
  have L0 := I.type (M := model prog w)
  have L1 : Looks (model prog w) hp (typeLookup (.ref 1141) "__getattribute__") (some (.builtin "BaseException.__getattribute__")) := Looks.of_peek X (pe_ga _ _)
  have L2 : Looks (model prog w) hp (typeLookup (.ref 1141) "__getattr__") none := Looks.of_peek X (pe_gat _ _)
  have L3 : Looks (model prog w) hp (isInstance (.ref x) (.type "BaseException")) true := L0.andThen (Looks.of_peek X (pe_subB _ _))
  have L4 := looks_find (M := model prog w) X I (findObj_own (name := name) (od := dictOf es n) (attr := none) (pe_hasDict _) hn rfl (by rw [lookIn_dict]; exact hl))
  have S := PySem.F.attr_ValueError.ga
  unfold getAttr getAttrBy
  refine wpAny_bind (wpAny_mkText (wpAny_holding (wpAny_bind (L0.at (wpAny_bind (L1.at ?_))))))
  show wpAny _ _ (getAttrByItsOwn (.ref x) (.str name tk) (.ref 1141) (.builtin "BaseException.__getattribute__") true expr) _ _ _
  unfold getAttrByItsOwn hookBefore
  refine wpAny_bind ?_
  show wpAny _ _ (typeLookup (.ref 1141) "__getattr__") _ _ _
  refine L2.at (wpAny_bind (wpAny_attempt (wpAny_holding ?_)))
  have hx0 : (expr && onTheHeap (Value.builtin "BaseException.__getattribute__")) = false := by cases expr <;> rfl
  unfold callGetattribute
  rw [hx0]
  show wpAny _ _ (boundAndCalled _ _ _) _ _ _
  unfold boundAndCalled
  refine wpAny_bind (wpAny_of_eq (S.bind (.ref x)) (wpAny_call ?_))
  refine codeAny_call_builtin S.plain PySem.F.entry_bexc_ga (@check_slot (model prog w) _ _ _ "BaseException.__getattribute__" "BaseException" "__getattribute__" (.ref x) [.str name tk] [] _ ga_kind ga_split L3 (PySem.F.args_bexc_ga _ _) ?_)
  unfold Builtin.«object.__getattribute__»
  refine wpAny_bind (wpAny_of_eq (a := (.ref x, [.str name tk])) rfl ?_)
  refine wpAny_bind (wpAny_of_eq (a := name) rfl ?_)
  refine wpAny_bind (L0.at (wpAny_bind (L4.at ?_)))
  refine wpAny_pure ?_
  show wpAny _ _ (handedOut v) _ _ _
  rw [handedOut_of hh]
  exact wpAny_pure h
theorem pe_strX (P P' : Params) (p : Program) : peek (K P) ⟨p, P'⟩ (typeLookup (.ref 1141) "__str__") = some (some (.builtin "BaseException.__str__")) := by kernel_rfl
theorem pe_subX (P P' : Params) (p : Program) : peek (K P) ⟨p, P'⟩ (isSubtype (.ref 1141) (.type "BaseException")) = some true := by kernel_rfl
theorem strOf_eos {P : Params} {msg : Str} {u : Tok} {ws : Array Value} {Q : Value → Shared → Prop} (hu : A.units < cLine) (X : (K P).In s.heap) (hx : s.heap.get? x = some oe) (h1 : oe.cls = .ref 1141) (h3 : oe.data = .fields ws) (h4 : ws[0]? = some (.ref t)) (hT : s.heap.get? t = some (tupOne msg u)) (h : Q (.str msg u) s) :
    wpAny (model prog w) A (PySem.Builtin.Str.strOf (.ref x)) Q E s := by
  obtain ⟨hp, g, d, tk, os⟩ := s
  have L0 : Looks (model prog w) hp (typeOf (.ref x)) (.ref 1141) := by rw [← h1]; exact (Looks.ld hx).andThen .now
  have L1 : Looks (model prog w) hp (typeLookup (.ref 1141) "__str__") (some (.builtin "BaseException.__str__")) := Looks.of_peek X (pe_strX _ _ _)
  have L3 : Looks (model prog w) hp (isInstance (.ref x) (.type "BaseException")) true := L0.andThen (Looks.of_peek X (pe_subX _ _ _))
  have S := PySem.F.excStr_ValueError.str
  have hcall : ∀ {Q : Value → Shared → Prop}, Q (.str msg u) ⟨hp, g, d, tk, os⟩ → wpAny (model prog w) A (call (.builtin "BaseException.__str__") [.ref x]) Q E ⟨hp, g, d, tk, os⟩ := fun {Q} hq => by
    refine wpAny_call (codeAny_call_builtin S.plain PySem.F.entry_bexc_str (@check_slot (model prog w) _ _ _ "BaseException.__str__" "BaseException" "__str__" (.ref x) [] [] _ bs_kind bs_split L3 (PySem.F.args_bexc_str _) ?_))
    unfold Builtin.«BaseException.__str__»
    refine wpAny_bind (wpAny_of_eq (a := (.ref x, [])) rfl ?_)
    unfold Builtin.BaseException.bexcArgs
    refine wpAny_bind (wpAny_bind (wpAny_field hx h3 h4 (wpAny_bind (wpAny_seqItems hT rfl (wpAny_pure ?_)))))
    dsimp only
    refine wpAny_bind (wpAny_rule ?_)
    refine wpAny_bind (wpAny_of_eq (a := .str msg u) rfl ?_)
    exact wpAny_pure hq
  unfold PySem.Builtin.Str.strOf
  repeat (first | with_reducible refine wpAny_cRoomFor hu ?_ | wp_step)
  show wpAny _ _ (typeLookup oe.cls _) _ _ _
  rw [h1]
  refine L1.at ?_
  dsimp only
  refine wpAny_holding (wpAny_bind (wpAny_of_eq (S.bind _) ?_))
  dsimp only
  refine wpAny_bind (hcall (wpAny_pure ?_))
  dsimp only
  repeat (first | assumption | wp_step)
theorem str_eos {msg : Str} {u : Tok} {Q : Value → Shared → Prop} (hu : A.units + 2 < cLine) (F : Fr h₀ L s.heap m) (X₀ : (K w.params).In h₀) (N : News h₀ L s.heap l) (hO : EosO oe t dx) (he : (x, oe) ∈ l) (ht : (t, tupOne msg u) ∈ l) (h : Q (.str msg u) s) :
    wpAny (model prog w) A (call (.type "str") [.ref x]) Q E s := by
  have X := X₀.keeps F.keep
  obtain ⟨h1, h2, ws, h3, h4⟩ := hO
  exact callType_new PySem.F.called_str (by decide) (PySem.F.typeCall_str_1 _) (PySem.F.newCall_str_1 _) (fun obj => PySem.F.args_object_init_2 obj _) PySem.F.entry_str_new
    (PySem.meets_str_new (S := fun A' R s' => A'.units + 1 < cLine ∧ (K w.params).In s'.heap ∧ s'.heap.get? x = some oe ∧ s'.heap.get? t = some (tupOne msg u) ∧ R (.ok (.ret (.str msg u))) s')
      fun _ _ A' _ _ hq => strOf_eos (A := A'.in1) hq.1 hq.2.1 hq.2.2.1 h1 h3 h4 hq.2.2.2.1 hq.2.2.2.2)
    ⟨(show A.units + 1 + 1 < cLine from hu), X, (N _ he).1, (N _ ht).1, typeIs_str _ _ _, h⟩
end
end Mine
end
section
open PySem PySem.W PySem.Calls PyProof.Rows PySem.Spec
set_option maxRecDepth 100000
set_option maxHeartbeats 8000000
namespace Mine
theorem resetAsk {M : Model} {A : Around} {env : Env} {x : Str} {v : Value} {Q : Unit → Shared → Prop} {E : Value → Shared → Prop} {s : Shared} (h : wpAny M A (storeName env x v) Q E s) : wpAny M A (storeName env x v) Q E s := by
  w_top off
  k_with_none
  first
    | (walk1; fail)
    | exact h
local macro_rules | `(tactic| k_upd) => `(tactic| first | exact Pick.head | (refine' Pick.tail ?pp; (case pp => k_upd)))
local macro_rules | `(tactic| k_all) => `(tactic| assumption)
local macro_rules | `(tactic| k_room) => `(tactic| ktr_room)
local macro_rules | `(tactic| walk_at "call type:type") => `(tactic| refine call_type_of (PySem.W.typeIs_bytes _ _ _) (by decide +kernel) ?_)
local macro_rules | `(tactic| walk_at "call builtin:len") => `(tactic| (k_here; (with_reducible show wpAny _ _ (call (Value.builtin "len") [Value.ref _]) _ _ _); k_dflt (refine' len_baN ?N ?m ?z ?_; (case N => k_asm); (case m => k_mem); (case z => (first | assumption | exact Nat.le_trans (KBc.size_picked_le _ _ _) (by assumption))); k_whole); intro _ _))
local macro_rules | `(tactic| walk_at "call type:bytes") => `(tactic| (k_here; (with_reducible show wpAny _ _ (call (Value.type "bytes") [Value.ref _]) _ _ _); k_dflt (refine' bytes_baN ?N ?m ?z ?_; (case N => k_asm); (case m => k_mem); (case z => (first | assumption | exact Nat.le_trans (KBc.size_picked_le _ _ _) (by assumption))); k_whole); intro _ _))
local macro_rules | `(tactic| walk_at "subscriptTail") => `(tactic| (k_here; (with_reducible show wpAny _ _ (subscriptTail _ (Expr.Slice _ _ none _) (Value.ref _) (Value.ref _)) _ _ _); (with_reducible rename Fr _ _ _ _ => F'); (with_reducible rename News _ _ _ _ => N'); (refine cut_baN (s := ⟨_, _, _, _, _⟩) F' N' (by k_mem) (by constructor) (by constructor) (by (first | assumption | exact Nat.le_trans (KBc.size_picked_le _ _ _) (by assumption))) ?_); intro _ _ _ _ _))
local macro_rules | `(tactic| walk_at "call builtin:len") => `(tactic| (k_here; (with_reducible show wpAny _ _ (call (Value.builtin "len") [Value.bytes (rdB _ _ _) _]) _ _ _); refine len_bytes (Nat.le_trans rdB_le (by omega)) ?_))
local macro_rules | `(tactic| walk_at "call builtin:_struct.unpack") => `(tactic| (k_here; k_dflt (refine' unpackBN ?F ?N ?hb ?_; (case F => k_asm); (case N => k_asm); (case hb => assumption); k_whole); intro _ _ _ _ F' N' l1; (try k_lt l1)))
local macro_rules | `(tactic| walk_at "call type:enumerate") => `(tactic| (k_here; (with_reducible show wpAny _ _ (call (Value.type _) [Value.bytes _ _]) _ _ _); k_dflt (refine' call_enumB rfl ?hk ?F ?N ?_; (case hk => assumption); (case F => k_asm); (case N => k_asm); k_whole); intro _ _ F' N' S'))
local macro_rules | `(tactic| walk_at "pyReprObj bytes") => `(tactic| (k_here; (refine repr_bytes (by first | assumption | exact Nat.le_trans rdB_le (by omega)) (by first | assumption | exact literal_le (by first | omega | exact Nat.le_trans rdB_le (by omega))) ?_)))
theorem units_mark9 (A : Around) (h : Option Value) : (A.mark h).units = A.units := rfl
local macro_rules | `(tactic| walk_at "noteFrame ref") => `(tactic| (k_here; (rename RaisedD _ _ _ _ _ _ _ _ => rsX); k_dflt (refine' look_D ?R ?K ?U ?_; (case R => assumption); (case K => assumption); (case U => assumption); k_whole); intro h' R' U'; (try dsimp only at R' U' ⊢)))
local macro_rules | `(tactic| walk_at "handleBy ref") => `(tactic| (k_here; (rename RaisedD _ _ _ _ _ _ _ _ => rsX); k_dflt (refine' hit_D ?R ?F ?K ?U ?XB ?TB ?D ?T0 ?T ?_; (case R => assumption); (case F => assumption); (case K => assumption); (case U => assumption); (case XB => assumption); (case TB => assumption); (case D => assumption); (case T0 => first | assumption | exact KtsTurn.refl); (case T => kts_test); k_whole); intro h' g' oe tk' O' T' F' N' K' X' P' D'; (try k_lift K')))
local macro_rules | `(tactic| walk_at "getAttr ref") => `(tactic| (k_here; k_dflt (refine' get_eos ?F ?X ?N ?O ?he ?hd ?hn ?hl ?hh ?_; (case F => k_asm); (case X => k_asm); (case N => k_asm); (case O => assumption); (case he => k_mem); (case hd => k_mem); (case hn => k_is); (case hl => exact rfl); (case hh => exact rfl); k_whole)))
local macro_rules | `(tactic| walk_at "call type:str") => `(tactic| (k_here; (with_reducible show wpAny _ _ (call (Value.type "str") [Value.ref _]) _ _ _); k_dflt (refine' str_eos ?U ?F ?X ?N ?O ?he ?ht ?_; (case F => k_asm); (case X => k_asm); (case N => k_asm); (case O => assumption); (case he => k_mem); (case ht => k_mem); (case U => ((try simp only [units_mark9, depth_deeper, units_deeper, depth_in1, units_in1]); (try dsimp only [ktrTop]); omega)); k_whole)))
section
variable {w : World} {p : Program} {loose : List Str} {mean : ExcName → Option Value} {mg mb : Str → Option Value} {dp un : Nat} {gd : Option (List Code)} {cn : Str} {cs : Scope} {a : Addr} {ccd : Value} {A₀ : Around} {base h₀ : Heap} {L : Addr} {m : Str → Option Value} {s : Shared} {Q E : Value → Shared → Prop}
variable (B : Below A₀ base [] h₀) (F : Fr h₀ L s.heap m) (X : (K w.params).In h₀) (T : Top p loose mean mg mb h₀) (XB : (K w.params).In base) (TB : Top p loose mean mg mb base) (hk : cs.kind = .function)
include B F X T XB TB hk
local macro_rules | `(tactic| walk_at "call ref") => `(tactic| (k_here; k_dflt (first
  | ((with_reducible show wpAny _ _ (call (Value.ref 766) _) _ _ _); refine' rb_short ?B ?F ?X ?T ?hk ?hd ?hu ?hp ?hz ?hb0 ?hb1 ?hv0 ?hv1 ?hW ?hmore ?hn ?hnk ?hin ?N0 ?P1 ?P2 ?P3 ?P4 ?P5 ?ap ?_; (case F => k_asm); (case X => k_asm); (case T => k_asm); (case B => k_asm); (case hk => (first | assumption | rfl)); (case N0 => k_asm); (case P1 => k_upd); (case P2 => k_upd); (case P3 => k_upd); (case P4 => k_upd); (case P5 => k_upd); (case ap => (exact Ap.mk (by (first | assumption | k_ne)) (by (first | assumption | k_ne)) (by (first | assumption | k_ne)) (by (first | assumption | k_ne)) (by (first | assumption | k_ne)) (by (first | assumption | k_ne)) (by (first | assumption | k_ne)) (by k_all) (by k_all))); (case hd => (first | omega | ((try simp only [depth_deeper, units_deeper, depth_in1, units_in1]); (try dsimp only [ktrTop]); omega))); (case hu => (first | omega | ((try simp only [depth_deeper, units_deeper, depth_in1, units_in1]); (try dsimp only [ktrTop]); omega))); (case hp => (first | omega | ((try simp only [depth_deeper, units_deeper, depth_in1, units_in1]); (try dsimp only [ktrTop]); omega))); (case hz => assumption); (case hb0 => assumption); (case hb1 => assumption); (case hv0 => assumption); (case hv1 => assumption); (case hW => assumption); (case hmore => assumption); (case hn => (first | omega | ((try simp only [depth_deeper, units_deeper, depth_in1, units_in1]); (try dsimp only [ktrTop]); omega))); (case hnk => assumption); (case hin => assumption); k_whole; intro _ _ _ _ _ _ _ _ _ _ _ _ _ _ _ F' R' U'))))
theorem ask_rbS {σ : Sd} {β : Bd} {y e d : Addr} {b : Array UInt8} {rest : List (Addr × Obj)} {bl bits W : Int} {u1 u2 t tn tz : Tok} {pos n : Nat} {ks : List Int} (hd : dp + 218 < recursionLimit) (hu : un + 2180 < cLine) (hp : pos ≤ 1000000000) (hz : b.size ≤ 16777216) (hb0 : 0 ≤ bl) (hb1 : bl < 8) (hv0 : 0 ≤ bits) (hv1 : bits < 256) (hW : W ≤ 18) (hmore : bl < W) (hn : n ≤ 100000) (hnk : (n : Int) = (W - bl - 1).fdiv 8 + 1) (hin : (rdB b pos n).size < n)
    {l l1 l2 l3 l4 : List (Addr × Obj)} (N0 : News h₀ L s.heap l) (P1 : Pick (y, instObj 1075 e) l l1) (P2 : Pick (e, sdict w σ (bl) u1 (bits) u2) l1 l2) (P3 : Pick (σ.io, instObj 350 d) l2 l3) (P4 : Pick (d, bdict w β ((pos : Int)) t) l3 l4) (P5 : Pick (β.ba, baObj b) l4 rest) (ap : Ap y e σ.io d β.ba rest)
    (ret : ∀ h' tk D v1 v2 t2 w1 w2 w3 w4, Fr h₀ L h' m → News h₀ L h' ((D, PySem.W.listOf #[.str (Str.ofString "end") w1, .int ((W - bl - 1).fdiv 8 + 1) w2, .int ((rdB b pos n).size) w3, .str (shortTxt ((W - bl - 1).fdiv 8 + 1) ((rdB b pos n).size)) w4] 0) :: ((y, instObj 1075 e) :: (e, sdict w σ ((-(W - bl)).fmod 8) v1 (bits) v2) :: (σ.io, instObj 350 d) :: (d, bdict w β ((rdP b.size pos n : Nat)) t2) :: (β.ba, baObj b) :: rest)) → Q (.ref D) { s with heap := h', toks := tk }) :
    wpAny (model prog w) (ktrTop dp un gd cn cs L a ccd [] []) (call (.ref 1183) [.ref y, .int 0 tz, .int W tn]) Q E s := by
  (obtain ⟨ap1, ap2, ap3, ap4, ap5, ap6, ap7, ap8, ap9⟩ := ap); (replace ap1 := neN ap1); (replace ap2 := neN ap2); (replace ap3 := neN ap3); (replace ap4 := neN ap4); (replace ap5 := neN ap5); (replace ap6 := neN ap6); (replace ap7 := neN ap7)
  have N := news_sub N0 (P1.cons (P2.cons (P3.cons (P4.cons (P5.cons sub_self))))); clear N0 P1 P2 P3 P4 P5
  refine wpAny_call ?_
  refine' code_defS0 (binds := [(Str.ofString "stream", Value.ref y), (Str.ofString "kind", Value.int 0 tz), (Str.ofString "width", Value.int W tn)]) ?k1 ?k2 ?k3 ?k4 ?k5 ?kA ?k6 ?k7 ?k8 ?k9 ?kB ?_ ?cK ?c2 ?c3 ?c4 ?c5
  case kA => exact rfl
  case k2 => k_asm
  case k1 => k_asm
  case k3 => k_asm
  case k4 => k_asm
  case k5 => k_asm
  case k6 => k_dflt k_is
  case k7 => k_dflt k_is
  case k8 => ktr_room
  case k9 => first | exact BindsTo.of_eq rfl | exact binds_K (by k_in) rfl (by k_is) rfl rfl rfl
  case kB => exact locs rfl
  case cK => assumption
  case c2 => exact rfl
  case c3 => exact rfl
  case c4 => exact rfl
  case c5 => decide
  intro g' L' h' FG' F' N' B' X' T' D'
  (try dsimp only)
  k_fold
  k_steps
  exact ret _ _ _ _ _ _ _ _ _ _ (by k_asm) (news_sub (by k_asm) (by ((repeat refine sub_cons (by k_mem) ?_); (repeat first | exact sub_self | exact sub_nil | refine sub_up ?_))))
local macro_rules | `(tactic| walk_at "call ref") => `(tactic| (k_here; k_dflt (first
  | ((with_reducible show wpAny _ _ (call (Value.ref 773) _) _ _ _); refine' le_short ?B ?F ?X ?T ?hk ?hd ?hu ?hp ?hz ?hb0 ?hb1 ?hv0 ?hv1 ?hW ?hmore ?hn ?hnk ?hin ?N0 ?P1 ?P2 ?P3 ?P4 ?P5 ?ap ?_; (case F => k_asm); (case X => k_asm); (case T => k_asm); (case B => k_asm); (case hk => (first | assumption | rfl)); (case N0 => k_asm); (case P1 => k_upd); (case P2 => k_upd); (case P3 => k_upd); (case P4 => k_upd); (case P5 => k_upd); (case ap => (exact Ap.mk (by (first | assumption | k_ne)) (by (first | assumption | k_ne)) (by (first | assumption | k_ne)) (by (first | assumption | k_ne)) (by (first | assumption | k_ne)) (by (first | assumption | k_ne)) (by (first | assumption | k_ne)) (by k_all) (by k_all))); (case hd => (first | omega | ((try simp only [depth_deeper, units_deeper, depth_in1, units_in1]); (try dsimp only [ktrTop]); omega))); (case hu => (first | omega | ((try simp only [depth_deeper, units_deeper, depth_in1, units_in1]); (try dsimp only [ktrTop]); omega))); (case hp => (first | omega | ((try simp only [depth_deeper, units_deeper, depth_in1, units_in1]); (try dsimp only [ktrTop]); omega))); (case hz => assumption); (case hb0 => assumption); (case hb1 => assumption); (case hv0 => assumption); (case hv1 => assumption); (case hW => assumption); (case hmore => assumption); (case hn => (first | omega | ((try simp only [depth_deeper, units_deeper, depth_in1, units_in1]); (try dsimp only [ktrTop]); omega))); (case hnk => assumption); (case hin => assumption); k_whole; intro _ _ _ _ _ _ _ _ _ _ _ _ _ _ _ F' R' U'))))
theorem ask_leS {σ : Sd} {β : Bd} {y e d : Addr} {b : Array UInt8} {rest : List (Addr × Obj)} {bl bits W : Int} {u1 u2 t tn tz : Tok} {pos n : Nat} {ks : List Int} (hd : dp + 218 < recursionLimit) (hu : un + 2180 < cLine) (hp : pos ≤ 1000000000) (hz : b.size ≤ 16777216) (hb0 : 0 ≤ bl) (hb1 : bl < 8) (hv0 : 0 ≤ bits) (hv1 : bits < 256) (hW : W ≤ 18) (hmore : bl < W) (hn : n ≤ 100000) (hnk : (n : Int) = (W - bl - 1).fdiv 8 + 1) (hin : (rdB b pos n).size < n)
    {l l1 l2 l3 l4 : List (Addr × Obj)} (N0 : News h₀ L s.heap l) (P1 : Pick (y, instObj 1075 e) l l1) (P2 : Pick (e, sdict w σ (bl) u1 (bits) u2) l1 l2) (P3 : Pick (σ.io, instObj 350 d) l2 l3) (P4 : Pick (d, bdict w β ((pos : Int)) t) l3 l4) (P5 : Pick (β.ba, baObj b) l4 rest) (ap : Ap y e σ.io d β.ba rest)
    (ret : ∀ h' tk D v1 v2 t2 w1 w2 w3 w4, Fr h₀ L h' m → News h₀ L h' ((D, PySem.W.listOf #[.str (Str.ofString "end") w1, .int ((W - bl - 1).fdiv 8 + 1) w2, .int ((rdB b pos n).size) w3, .str (shortTxt ((W - bl - 1).fdiv 8 + 1) ((rdB b pos n).size)) w4] 0) :: ((y, instObj 1075 e) :: (e, sdict w σ (bl) v1 (bits) v2) :: (σ.io, instObj 350 d) :: (d, bdict w β ((rdP b.size pos n : Nat)) t2) :: (β.ba, baObj b) :: rest)) → Q (.ref D) { s with heap := h', toks := tk }) :
    wpAny (model prog w) (ktrTop dp un gd cn cs L a ccd [] []) (call (.ref 1183) [.ref y, .int 1 tz, .int W tn]) Q E s := by
  (obtain ⟨ap1, ap2, ap3, ap4, ap5, ap6, ap7, ap8, ap9⟩ := ap); (replace ap1 := neN ap1); (replace ap2 := neN ap2); (replace ap3 := neN ap3); (replace ap4 := neN ap4); (replace ap5 := neN ap5); (replace ap6 := neN ap6); (replace ap7 := neN ap7)
  have N := news_sub N0 (P1.cons (P2.cons (P3.cons (P4.cons (P5.cons sub_self))))); clear N0 P1 P2 P3 P4 P5
  refine wpAny_call ?_
  refine' code_defS0 (binds := [(Str.ofString "stream", Value.ref y), (Str.ofString "kind", Value.int 1 tz), (Str.ofString "width", Value.int W tn)]) ?k1 ?k2 ?k3 ?k4 ?k5 ?kA ?k6 ?k7 ?k8 ?k9 ?kB ?_ ?cK ?c2 ?c3 ?c4 ?c5
  case kA => exact rfl
  case k2 => k_asm
  case k1 => k_asm
  case k3 => k_asm
  case k4 => k_asm
  case k5 => k_asm
  case k6 => k_dflt k_is
  case k7 => k_dflt k_is
  case k8 => ktr_room
  case k9 => first | exact BindsTo.of_eq rfl | exact binds_K (by k_in) rfl (by k_is) rfl rfl rfl
  case kB => exact locs rfl
  case cK => assumption
  case c2 => exact rfl
  case c3 => exact rfl
  case c4 => exact rfl
  case c5 => decide
  intro g' L' h' FG' F' N' B' X' T' D'
  (try dsimp only)
  k_fold
  k_steps
  exact ret _ _ _ _ _ _ _ _ _ _ (by k_asm) (news_sub (by k_asm) (by ((repeat refine sub_cons (by k_mem) ?_); (repeat first | exact sub_self | exact sub_nil | refine sub_up ?_))))
local macro_rules | `(tactic| walk_at "call ref") => `(tactic| (k_here; k_dflt (first
  | ((with_reducible show wpAny _ _ (call (Value.ref 724) _) _ _ _); refine' u1_short ?B ?F ?X ?T ?hk ?hd ?hu ?hp ?hz ?hin ?N0 ?P1 ?P2 ?P3 ?P4 ?P5 ?ap ?_; (case F => k_asm); (case X => k_asm); (case T => k_asm); (case B => k_asm); (case hk => (first | assumption | rfl)); (case N0 => k_asm); (case P1 => k_upd); (case P2 => k_upd); (case P3 => k_upd); (case P4 => k_upd); (case P5 => k_upd); (case ap => (exact Ap.mk (by (first | assumption | k_ne)) (by (first | assumption | k_ne)) (by (first | assumption | k_ne)) (by (first | assumption | k_ne)) (by (first | assumption | k_ne)) (by (first | assumption | k_ne)) (by (first | assumption | k_ne)) (by k_all) (by k_all))); (case hd => (first | omega | ((try simp only [depth_deeper, units_deeper, depth_in1, units_in1]); (try dsimp only [ktrTop]); omega))); (case hu => (first | omega | ((try simp only [depth_deeper, units_deeper, depth_in1, units_in1]); (try dsimp only [ktrTop]); omega))); (case hp => (first | omega | ((try simp only [depth_deeper, units_deeper, depth_in1, units_in1]); (try dsimp only [ktrTop]); omega))); (case hz => assumption); (case hin => assumption); k_whole; intro _ _ _ _ _ _ _ _ _ _ _ _ _ _ _ F' R' U'))))
theorem ask_u1S {σ : Sd} {β : Bd} {y e d : Addr} {b : Array UInt8} {rest : List (Addr × Obj)} {bl bits W : Int} {u1 u2 t tn tz : Tok} {pos n : Nat} {ks : List Int} (hd : dp + 218 < recursionLimit) (hu : un + 2180 < cLine) (hp : pos ≤ 1000000000) (hz : b.size ≤ 16777216) (hin : (rdB b pos 1).size < 1)
    {l l1 l2 l3 l4 : List (Addr × Obj)} (N0 : News h₀ L s.heap l) (P1 : Pick (y, instObj 1075 e) l l1) (P2 : Pick (e, sdict w σ (bl) u1 (bits) u2) l1 l2) (P3 : Pick (σ.io, instObj 350 d) l2 l3) (P4 : Pick (d, bdict w β ((pos : Int)) t) l3 l4) (P5 : Pick (β.ba, baObj b) l4 rest) (ap : Ap y e σ.io d β.ba rest)
    (ret : ∀ h' tk D v1 v2 t2 w1 w2 w3 w4, Fr h₀ L h' m → News h₀ L h' ((D, PySem.W.listOf #[.str (Str.ofString "end") w1, .int (((1 : Nat) : Int)) w2, .int ((rdB b pos 1).size) w3, .str (shortTxt (((1 : Nat) : Int)) ((rdB b pos 1).size)) w4] 0) :: ((y, instObj 1075 e) :: (e, sdict w σ (0) v1 (0) v2) :: (σ.io, instObj 350 d) :: (d, bdict w β ((rdP b.size pos 1 : Nat)) t2) :: (β.ba, baObj b) :: rest)) → Q (.ref D) { s with heap := h', toks := tk }) :
    wpAny (model prog w) (ktrTop dp un gd cn cs L a ccd [] []) (call (.ref 1183) [.ref y, .int 4 tz, .int W tn]) Q E s := by
  (obtain ⟨ap1, ap2, ap3, ap4, ap5, ap6, ap7, ap8, ap9⟩ := ap); (replace ap1 := neN ap1); (replace ap2 := neN ap2); (replace ap3 := neN ap3); (replace ap4 := neN ap4); (replace ap5 := neN ap5); (replace ap6 := neN ap6); (replace ap7 := neN ap7)
  have N := news_sub N0 (P1.cons (P2.cons (P3.cons (P4.cons (P5.cons sub_self))))); clear N0 P1 P2 P3 P4 P5
  refine wpAny_call ?_
  refine' code_defS0 (binds := [(Str.ofString "stream", Value.ref y), (Str.ofString "kind", Value.int 4 tz), (Str.ofString "width", Value.int W tn)]) ?k1 ?k2 ?k3 ?k4 ?k5 ?kA ?k6 ?k7 ?k8 ?k9 ?kB ?_ ?cK ?c2 ?c3 ?c4 ?c5
  case kA => exact rfl
  case k2 => k_asm
  case k1 => k_asm
  case k3 => k_asm
  case k4 => k_asm
  case k5 => k_asm
  case k6 => k_dflt k_is
  case k7 => k_dflt k_is
  case k8 => ktr_room
  case k9 => first | exact BindsTo.of_eq rfl | exact binds_K (by k_in) rfl (by k_is) rfl rfl rfl
  case kB => exact locs rfl
  case cK => assumption
  case c2 => exact rfl
  case c3 => exact rfl
  case c4 => exact rfl
  case c5 => decide
  intro g' L' h' FG' F' N' B' X' T' D'
  (try dsimp only)
  k_fold
  k_steps
  exact ret _ _ _ _ _ _ _ _ _ _ (by k_asm) (news_sub (by k_asm) (by ((repeat refine sub_cons (by k_mem) ?_); (repeat first | exact sub_self | exact sub_nil | refine sub_up ?_))))
local macro_rules | `(tactic| walk_at "call ref") => `(tactic| (k_here; k_dflt (first
  | ((with_reducible show wpAny _ _ (call (Value.ref 766) _) _ _ _); refine' rb_more ?B ?F ?X ?T ?hk ?hd ?hu ?hp ?hz ?hb0 ?hb1 ?hv0 ?hv1 ?hW ?hmore ?hn ?hnk ?hin ?hks ?hkl ?hki ?N0 ?P1 ?P2 ?P3 ?P4 ?P5 ?ap ?_; (case F => k_asm); (case X => k_asm); (case T => k_asm); (case B => k_asm); (case hk => (first | assumption | rfl)); (case N0 => k_asm); (case P1 => k_upd); (case P2 => k_upd); (case P3 => k_upd); (case P4 => k_upd); (case P5 => k_upd); (case ap => (exact Ap.mk (by (first | assumption | k_ne)) (by (first | assumption | k_ne)) (by (first | assumption | k_ne)) (by (first | assumption | k_ne)) (by (first | assumption | k_ne)) (by (first | assumption | k_ne)) (by (first | assumption | k_ne)) (by k_all) (by k_all))); (case hd => (first | omega | ((try simp only [depth_deeper, units_deeper, depth_in1, units_in1]); (try dsimp only [ktrTop]); omega))); (case hu => (first | omega | ((try simp only [depth_deeper, units_deeper, depth_in1, units_in1]); (try dsimp only [ktrTop]); omega))); (case hp => (first | omega | ((try simp only [depth_deeper, units_deeper, depth_in1, units_in1]); (try dsimp only [ktrTop]); omega))); (case hz => assumption); (case hb0 => assumption); (case hb1 => assumption); (case hv0 => assumption); (case hv1 => assumption); (case hW => assumption); (case hmore => assumption); (case hn => (first | omega | ((try simp only [depth_deeper, units_deeper, depth_in1, units_in1]); (try dsimp only [ktrTop]); omega))); (case hnk => assumption); (case hin => assumption); (case hks => assumption); (case hkl => assumption); (case hki => assumption); k_whole; intro _ _ _ _ _ _ F' N'))))
theorem ask_rbM {σ : Sd} {β : Bd} {y e d : Addr} {b : Array UInt8} {rest : List (Addr × Obj)} {bl bits W : Int} {u1 u2 t tn tz : Tok} {pos n : Nat} {ks : List Int} (hd : dp + 218 < recursionLimit) (hu : un + 2180 < cLine) (hp : pos ≤ 1000000000) (hz : b.size ≤ 16777216) (hb0 : 0 ≤ bl) (hb1 : bl < 8) (hv0 : 0 ≤ bits) (hv1 : bits < 256) (hW : W ≤ 18) (hmore : bl < W) (hn : n ≤ 100000) (hnk : (n : Int) = (W - bl - 1).fdiv 8 + 1) (hin : (rdB b pos n).size = n) (hks : KBw.bInts (rdB b pos n) = ks) (hkl : ks.length ≤ 7) (hki : ∀ k ∈ ks, 0 ≤ k ∧ k < 256)
    {l l1 l2 l3 l4 : List (Addr × Obj)} (N0 : News h₀ L s.heap l) (P1 : Pick (y, instObj 1075 e) l l1) (P2 : Pick (e, sdict w σ (bl) u1 (bits) u2) l1 l2) (P3 : Pick (σ.io, instObj 350 d) l2 l3) (P4 : Pick (d, bdict w β ((pos : Int)) t) l3 l4) (P5 : Pick (β.ba, baObj b) l4 rest) (ap : Ap y e σ.io d β.ba rest)
    (ret : ∀ h' tk v1 v2 t2 t4, Fr h₀ L h' m → News h₀ L h' ((y, instObj 1075 e) :: (e, sdict w σ ((-(W - bl)).fmod 8) v1 (PySem.Builtin.bitAnd (ks.foldl (fun a k => a * 256 + k) 0) (1 * 2 ^ ((-(W - bl)).fmod 8).toNat - 1)) v2) :: (σ.io, instObj 350 d) :: (d, bdict w β ((rdP b.size pos n : Nat)) t2) :: (β.ba, baObj b) :: rest) → Q (.int (PySem.Builtin.bitOr ((ks.foldl (fun a k => a * 256 + k) 0).fdiv (2 ^ ((-(W - bl)).fmod 8).toNat)) (bits * 2 ^ (W - bl).toNat)) t4) { s with heap := h', toks := tk }) :
    wpAny (model prog w) (ktrTop dp un gd cn cs L a ccd [] []) (call (.ref 1183) [.ref y, .int 0 tz, .int W tn]) Q E s := by
  (obtain ⟨ap1, ap2, ap3, ap4, ap5, ap6, ap7, ap8, ap9⟩ := ap); (replace ap1 := neN ap1); (replace ap2 := neN ap2); (replace ap3 := neN ap3); (replace ap4 := neN ap4); (replace ap5 := neN ap5); (replace ap6 := neN ap6); (replace ap7 := neN ap7)
  have N := news_sub N0 (P1.cons (P2.cons (P3.cons (P4.cons (P5.cons sub_self))))); clear N0 P1 P2 P3 P4 P5
  refine wpAny_call ?_
  refine' code_defS0 (binds := [(Str.ofString "stream", Value.ref y), (Str.ofString "kind", Value.int 0 tz), (Str.ofString "width", Value.int W tn)]) ?k1 ?k2 ?k3 ?k4 ?k5 ?kA ?k6 ?k7 ?k8 ?k9 ?kB ?_ ?cK ?c2 ?c3 ?c4 ?c5
  case kA => exact rfl
  case k2 => k_asm
  case k1 => k_asm
  case k3 => k_asm
  case k4 => k_asm
  case k5 => k_asm
  case k6 => k_dflt k_is
  case k7 => k_dflt k_is
  case k8 => ktr_room
  case k9 => first | exact BindsTo.of_eq rfl | exact binds_K (by k_in) rfl (by k_is) rfl rfl rfl
  case kB => exact locs rfl
  case cK => assumption
  case c2 => exact rfl
  case c3 => exact rfl
  case c4 => exact rfl
  case c5 => decide
  intro g' L' h' FG' F' N' B' X' T' D'
  (try dsimp only)
  k_fold
  k_steps
  exact ret _ _ _ _ _ _ (by k_asm) (news_sub (by k_asm) (by ((repeat refine sub_cons (by k_mem) ?_); (repeat first | exact sub_self | exact sub_nil | refine sub_up ?_))))
local macro_rules | `(tactic| walk_at "call ref") => `(tactic| (k_here; k_dflt (first
  | ((with_reducible show wpAny _ _ (call (Value.ref 773) _) _ _ _); refine' le_more ?B ?F ?X ?T ?hk ?hd ?hu ?hp ?hz ?hb0 ?hb1 ?hv0 ?hv1 ?hW ?hmore ?hn ?hnk ?hin ?hks ?hkl ?hki ?hsm ?N0 ?P1 ?P2 ?P3 ?P4 ?P5 ?ap ?_; (case F => k_asm); (case X => k_asm); (case T => k_asm); (case B => k_asm); (case hk => (first | assumption | rfl)); (case N0 => k_asm); (case P1 => k_upd); (case P2 => k_upd); (case P3 => k_upd); (case P4 => k_upd); (case P5 => k_upd); (case ap => (exact Ap.mk (by (first | assumption | k_ne)) (by (first | assumption | k_ne)) (by (first | assumption | k_ne)) (by (first | assumption | k_ne)) (by (first | assumption | k_ne)) (by (first | assumption | k_ne)) (by (first | assumption | k_ne)) (by k_all) (by k_all))); (case hd => (first | omega | ((try simp only [depth_deeper, units_deeper, depth_in1, units_in1]); (try dsimp only [ktrTop]); omega))); (case hu => (first | omega | ((try simp only [depth_deeper, units_deeper, depth_in1, units_in1]); (try dsimp only [ktrTop]); omega))); (case hp => (first | omega | ((try simp only [depth_deeper, units_deeper, depth_in1, units_in1]); (try dsimp only [ktrTop]); omega))); (case hz => assumption); (case hb0 => assumption); (case hb1 => assumption); (case hv0 => assumption); (case hv1 => assumption); (case hW => assumption); (case hmore => assumption); (case hn => (first | omega | ((try simp only [depth_deeper, units_deeper, depth_in1, units_in1]); (try dsimp only [ktrTop]); omega))); (case hnk => assumption); (case hin => assumption); (case hks => assumption); (case hkl => assumption); (case hki => assumption); (case hsm => assumption); k_whole; intro _ _ _ _ _ _ F' N'))))
theorem ask_leM {σ : Sd} {β : Bd} {y e d : Addr} {b : Array UInt8} {rest : List (Addr × Obj)} {bl bits W : Int} {u1 u2 t tn tz : Tok} {pos n : Nat} {ks : List Int} (hd : dp + 218 < recursionLimit) (hu : un + 2180 < cLine) (hp : pos ≤ 1000000000) (hz : b.size ≤ 16777216) (hb0 : 0 ≤ bl) (hb1 : bl < 8) (hv0 : 0 ≤ bits) (hv1 : bits < 256) (hW : W ≤ 18) (hmore : bl < W) (hn : n ≤ 100000) (hnk : (n : Int) = (W - bl - 1).fdiv 8 + 1) (hin : (rdB b pos n).size = n) (hks : KBw.bInts (rdB b pos n) = ks) (hkl : ks.length ≤ 7) (hki : ∀ k ∈ ks, 0 ≤ k ∧ k < 256) (hsm : (leFold ks).natAbs < 2 ^ 64)
    {l l1 l2 l3 l4 : List (Addr × Obj)} (N0 : News h₀ L s.heap l) (P1 : Pick (y, instObj 1075 e) l l1) (P2 : Pick (e, sdict w σ (bl) u1 (bits) u2) l1 l2) (P3 : Pick (σ.io, instObj 350 d) l2 l3) (P4 : Pick (d, bdict w β ((pos : Int)) t) l3 l4) (P5 : Pick (β.ba, baObj b) l4 rest) (ap : Ap y e σ.io d β.ba rest)
    (ret : ∀ h' tk v1 v2 t2 t4, Fr h₀ L h' m → News h₀ L h' ((y, instObj 1075 e) :: (e, sdict w σ ((-(W - bl)).fmod 8) v1 ((leFold ks).fdiv (2 ^ (W - bl).toNat)) v2) :: (σ.io, instObj 350 d) :: (d, bdict w β ((rdP b.size pos n : Nat)) t2) :: (β.ba, baObj b) :: rest) → Q (.int (PySem.Builtin.bitAnd (PySem.Builtin.bitOr (leFold ks * 2 ^ bl.toNat) bits) (1 * 2 ^ W.toNat - 1)) t4) { s with heap := h', toks := tk }) :
    wpAny (model prog w) (ktrTop dp un gd cn cs L a ccd [] []) (call (.ref 1183) [.ref y, .int 1 tz, .int W tn]) Q E s := by
  (obtain ⟨ap1, ap2, ap3, ap4, ap5, ap6, ap7, ap8, ap9⟩ := ap); (replace ap1 := neN ap1); (replace ap2 := neN ap2); (replace ap3 := neN ap3); (replace ap4 := neN ap4); (replace ap5 := neN ap5); (replace ap6 := neN ap6); (replace ap7 := neN ap7)
  have N := news_sub N0 (P1.cons (P2.cons (P3.cons (P4.cons (P5.cons sub_self))))); clear N0 P1 P2 P3 P4 P5
  refine wpAny_call ?_
  refine' code_defS0 (binds := [(Str.ofString "stream", Value.ref y), (Str.ofString "kind", Value.int 1 tz), (Str.ofString "width", Value.int W tn)]) ?k1 ?k2 ?k3 ?k4 ?k5 ?kA ?k6 ?k7 ?k8 ?k9 ?kB ?_ ?cK ?c2 ?c3 ?c4 ?c5
  case kA => exact rfl
  case k2 => k_asm
  case k1 => k_asm
  case k3 => k_asm
  case k4 => k_asm
  case k5 => k_asm
  case k6 => k_dflt k_is
  case k7 => k_dflt k_is
  case k8 => ktr_room
  case k9 => first | exact BindsTo.of_eq rfl | exact binds_K (by k_in) rfl (by k_is) rfl rfl rfl
  case kB => exact locs rfl
  case cK => assumption
  case c2 => exact rfl
  case c3 => exact rfl
  case c4 => exact rfl
  case c5 => decide
  intro g' L' h' FG' F' N' B' X' T' D'
  (try dsimp only)
  k_fold
  k_steps
  exact ret _ _ _ _ _ _ (by k_asm) (news_sub (by k_asm) (by ((repeat refine sub_cons (by k_mem) ?_); (repeat first | exact sub_self | exact sub_nil | refine sub_up ?_))))
local macro_rules | `(tactic| walk_at "call ref") => `(tactic| (k_here; k_dflt (first
  | ((with_reducible show wpAny _ _ (call (Value.ref 766) _) _ _ _); refine' rb_less ?B ?F ?X ?T ?hk ?hd ?hu ?hb0 ?hb1 ?hv0 ?hv1 ?hW0 ?hless ?N0 ?P1 ?P2 ?P3 ?P4 ?P5 ?ap ?_; (case F => k_asm); (case X => k_asm); (case T => k_asm); (case B => k_asm); (case hk => (first | assumption | rfl)); (case N0 => k_asm); (case P1 => k_upd); (case P2 => k_upd); (case P3 => k_upd); (case P4 => k_upd); (case P5 => k_upd); (case ap => (exact Ap.mk (by (first | assumption | k_ne)) (by (first | assumption | k_ne)) (by (first | assumption | k_ne)) (by (first | assumption | k_ne)) (by (first | assumption | k_ne)) (by (first | assumption | k_ne)) (by (first | assumption | k_ne)) (by k_all) (by k_all))); (case hd => (first | omega | ((try simp only [depth_deeper, units_deeper, depth_in1, units_in1]); (try dsimp only [ktrTop]); omega))); (case hu => (first | omega | ((try simp only [depth_deeper, units_deeper, depth_in1, units_in1]); (try dsimp only [ktrTop]); omega))); (case hb0 => assumption); (case hb1 => assumption); (case hv0 => assumption); (case hv1 => assumption); (case hW0 => assumption); (case hless => assumption); k_whole; intro _ _ _ _ _ F' N'))))
theorem ask_rbL {σ : Sd} {β : Bd} {y e d : Addr} {b : Array UInt8} {rest : List (Addr × Obj)} {bl bits W : Int} {u1 u2 t tn tz : Tok} {pos : Int} {ks : List Int} (hd : dp + 218 < recursionLimit) (hu : un + 2180 < cLine) (hb0 : 0 ≤ bl) (hb1 : bl < 8) (hv0 : 0 ≤ bits) (hv1 : bits < 256) (hW0 : 0 ≤ W) (hless : W ≤ bl)
    {l l1 l2 l3 l4 : List (Addr × Obj)} (N0 : News h₀ L s.heap l) (P1 : Pick (y, instObj 1075 e) l l1) (P2 : Pick (e, sdict w σ (bl) u1 (bits) u2) l1 l2) (P3 : Pick (σ.io, instObj 350 d) l2 l3) (P4 : Pick (d, bdict w β (pos) t) l3 l4) (P5 : Pick (β.ba, baObj b) l4 rest) (ap : Ap y e σ.io d β.ba rest)
    (ret : ∀ h' tk v1 v2 t2 t4, Fr h₀ L h' m → News h₀ L h' ((y, instObj 1075 e) :: (e, sdict w σ ((-(W - bl)).fmod 8) v1 (PySem.Builtin.bitAnd bits (1 * 2 ^ ((-(W - bl)).fmod 8).toNat - 1)) v2) :: (σ.io, instObj 350 d) :: (d, bdict w β (pos) t2) :: (β.ba, baObj b) :: rest) → Q (.int (bits.fdiv (2 ^ (-(W - bl)).toNat)) t4) { s with heap := h', toks := tk }) :
    wpAny (model prog w) (ktrTop dp un gd cn cs L a ccd [] []) (call (.ref 1183) [.ref y, .int 0 tz, .int W tn]) Q E s := by
  (obtain ⟨ap1, ap2, ap3, ap4, ap5, ap6, ap7, ap8, ap9⟩ := ap); (replace ap1 := neN ap1); (replace ap2 := neN ap2); (replace ap3 := neN ap3); (replace ap4 := neN ap4); (replace ap5 := neN ap5); (replace ap6 := neN ap6); (replace ap7 := neN ap7)
  have N := news_sub N0 (P1.cons (P2.cons (P3.cons (P4.cons (P5.cons sub_self))))); clear N0 P1 P2 P3 P4 P5
  refine wpAny_call ?_
  refine' code_defS0 (binds := [(Str.ofString "stream", Value.ref y), (Str.ofString "kind", Value.int 0 tz), (Str.ofString "width", Value.int W tn)]) ?k1 ?k2 ?k3 ?k4 ?k5 ?kA ?k6 ?k7 ?k8 ?k9 ?kB ?_ ?cK ?c2 ?c3 ?c4 ?c5
  case kA => exact rfl
  case k2 => k_asm
  case k1 => k_asm
  case k3 => k_asm
  case k4 => k_asm
  case k5 => k_asm
  case k6 => k_dflt k_is
  case k7 => k_dflt k_is
  case k8 => ktr_room
  case k9 => first | exact BindsTo.of_eq rfl | exact binds_K (by k_in) rfl (by k_is) rfl rfl rfl
  case kB => exact locs rfl
  case cK => assumption
  case c2 => exact rfl
  case c3 => exact rfl
  case c4 => exact rfl
  case c5 => decide
  intro g' L' h' FG' F' N' B' X' T' D'
  (try dsimp only)
  k_fold
  k_steps
  exact ret _ _ _ _ _ _ (by k_asm) (news_sub (by k_asm) (by ((repeat refine sub_cons (by k_mem) ?_); (repeat first | exact sub_self | exact sub_nil | refine sub_up ?_))))
local macro_rules | `(tactic| walk_at "call ref") => `(tactic| (k_here; k_dflt (first
  | ((with_reducible show wpAny _ _ (call (Value.ref 773) _) _ _ _); refine' le_less ?B ?F ?X ?T ?hk ?hd ?hu ?hb0 ?hb1 ?hv0 ?hv1 ?hW0 ?hless ?N0 ?P1 ?P2 ?P3 ?P4 ?P5 ?ap ?_; (case F => k_asm); (case X => k_asm); (case T => k_asm); (case B => k_asm); (case hk => (first | assumption | rfl)); (case N0 => k_asm); (case P1 => k_upd); (case P2 => k_upd); (case P3 => k_upd); (case P4 => k_upd); (case P5 => k_upd); (case ap => (exact Ap.mk (by (first | assumption | k_ne)) (by (first | assumption | k_ne)) (by (first | assumption | k_ne)) (by (first | assumption | k_ne)) (by (first | assumption | k_ne)) (by (first | assumption | k_ne)) (by (first | assumption | k_ne)) (by k_all) (by k_all))); (case hd => (first | omega | ((try simp only [depth_deeper, units_deeper, depth_in1, units_in1]); (try dsimp only [ktrTop]); omega))); (case hu => (first | omega | ((try simp only [depth_deeper, units_deeper, depth_in1, units_in1]); (try dsimp only [ktrTop]); omega))); (case hb0 => assumption); (case hb1 => assumption); (case hv0 => assumption); (case hv1 => assumption); (case hW0 => assumption); (case hless => assumption); k_whole; intro _ _ _ _ _ F' N'))))
theorem ask_leL {σ : Sd} {β : Bd} {y e d : Addr} {b : Array UInt8} {rest : List (Addr × Obj)} {bl bits W : Int} {u1 u2 t tn tz : Tok} {pos : Int} {ks : List Int} (hd : dp + 218 < recursionLimit) (hu : un + 2180 < cLine) (hb0 : 0 ≤ bl) (hb1 : bl < 8) (hv0 : 0 ≤ bits) (hv1 : bits < 256) (hW0 : 0 ≤ W) (hless : W ≤ bl)
    {l l1 l2 l3 l4 : List (Addr × Obj)} (N0 : News h₀ L s.heap l) (P1 : Pick (y, instObj 1075 e) l l1) (P2 : Pick (e, sdict w σ (bl) u1 (bits) u2) l1 l2) (P3 : Pick (σ.io, instObj 350 d) l2 l3) (P4 : Pick (d, bdict w β (pos) t) l3 l4) (P5 : Pick (β.ba, baObj b) l4 rest) (ap : Ap y e σ.io d β.ba rest)
    (ret : ∀ h' tk v1 v2 t2 t4, Fr h₀ L h' m → News h₀ L h' ((y, instObj 1075 e) :: (e, sdict w σ ((-(W - bl)).fmod 8) v1 (bits.fdiv (2 ^ W.toNat)) v2) :: (σ.io, instObj 350 d) :: (d, bdict w β (pos) t2) :: (β.ba, baObj b) :: rest) → Q (.int (PySem.Builtin.bitAnd bits (1 * 2 ^ W.toNat - 1)) t4) { s with heap := h', toks := tk }) :
    wpAny (model prog w) (ktrTop dp un gd cn cs L a ccd [] []) (call (.ref 1183) [.ref y, .int 1 tz, .int W tn]) Q E s := by
  (obtain ⟨ap1, ap2, ap3, ap4, ap5, ap6, ap7, ap8, ap9⟩ := ap); (replace ap1 := neN ap1); (replace ap2 := neN ap2); (replace ap3 := neN ap3); (replace ap4 := neN ap4); (replace ap5 := neN ap5); (replace ap6 := neN ap6); (replace ap7 := neN ap7)
  have N := news_sub N0 (P1.cons (P2.cons (P3.cons (P4.cons (P5.cons sub_self))))); clear N0 P1 P2 P3 P4 P5
  refine wpAny_call ?_
  refine' code_defS0 (binds := [(Str.ofString "stream", Value.ref y), (Str.ofString "kind", Value.int 1 tz), (Str.ofString "width", Value.int W tn)]) ?k1 ?k2 ?k3 ?k4 ?k5 ?kA ?k6 ?k7 ?k8 ?k9 ?kB ?_ ?cK ?c2 ?c3 ?c4 ?c5
  case kA => exact rfl
  case k2 => k_asm
  case k1 => k_asm
  case k3 => k_asm
  case k4 => k_asm
  case k5 => k_asm
  case k6 => k_dflt k_is
  case k7 => k_dflt k_is
  case k8 => ktr_room
  case k9 => first | exact BindsTo.of_eq rfl | exact binds_K (by k_in) rfl (by k_is) rfl rfl rfl
  case kB => exact locs rfl
  case cK => assumption
  case c2 => exact rfl
  case c3 => exact rfl
  case c4 => exact rfl
  case c5 => decide
  intro g' L' h' FG' F' N' B' X' T' D'
  (try dsimp only)
  k_fold
  k_steps
  exact ret _ _ _ _ _ _ (by k_asm) (news_sub (by k_asm) (by ((repeat refine sub_cons (by k_mem) ?_); (repeat first | exact sub_self | exact sub_nil | refine sub_up ?_))))
local macro_rules | `(tactic| walk_at "call ref") => `(tactic| (k_here; k_dflt (first
  | ((with_reducible show wpAny _ _ (call (Value.ref 724) _) _ _ _); refine' u1_ok ?B ?F ?X ?T ?hk ?hd ?hu ?hp ?hz ?hin ?N0 ?P1 ?P2 ?P3 ?P4 ?P5 ?ap ?_; (case F => k_asm); (case X => k_asm); (case T => k_asm); (case B => k_asm); (case hk => (first | assumption | rfl)); (case N0 => k_asm); (case P1 => k_upd); (case P2 => k_upd); (case P3 => k_upd); (case P4 => k_upd); (case P5 => k_upd); (case ap => (exact Ap.mk (by (first | assumption | k_ne)) (by (first | assumption | k_ne)) (by (first | assumption | k_ne)) (by (first | assumption | k_ne)) (by (first | assumption | k_ne)) (by (first | assumption | k_ne)) (by (first | assumption | k_ne)) (by k_all) (by k_all))); (case hd => (first | omega | ((try simp only [depth_deeper, units_deeper, depth_in1, units_in1]); (try dsimp only [ktrTop]); omega))); (case hu => (first | omega | ((try simp only [depth_deeper, units_deeper, depth_in1, units_in1]); (try dsimp only [ktrTop]); omega))); (case hp => (first | omega | ((try simp only [depth_deeper, units_deeper, depth_in1, units_in1]); (try dsimp only [ktrTop]); omega))); (case hz => assumption); (case hin => assumption); k_whole; intro _ _ _ _ _ _ F' N'))))
theorem ask_u1O {σ : Sd} {β : Bd} {y e d : Addr} {b : Array UInt8} {rest : List (Addr × Obj)} {bl bits W : Int} {u1 u2 t tn tz : Tok} {pos n : Nat} {ks : List Int} (hd : dp + 218 < recursionLimit) (hu : un + 2180 < cLine) (hp : pos ≤ 1000000000) (hz : b.size ≤ 16777216) (hin : (rdB b pos 1).size = 1)
    {l l1 l2 l3 l4 : List (Addr × Obj)} (N0 : News h₀ L s.heap l) (P1 : Pick (y, instObj 1075 e) l l1) (P2 : Pick (e, sdict w σ (bl) u1 (bits) u2) l1 l2) (P3 : Pick (σ.io, instObj 350 d) l2 l3) (P4 : Pick (d, bdict w β ((pos : Int)) t) l3 l4) (P5 : Pick (β.ba, baObj b) l4 rest) (ap : Ap y e σ.io d β.ba rest)
    (ret : ∀ h' tk v1 v2 t2 t4, Fr h₀ L h' m → News h₀ L h' ((y, instObj 1075 e) :: (e, sdict w σ (0) v1 (0) v2) :: (σ.io, instObj 350 d) :: (d, bdict w β ((rdP b.size pos 1 : Nat)) t2) :: (β.ba, baObj b) :: rest) → Q (.int (((PySem.Builtin.Struct.natOf false ((rdB b pos 1).extract 0 1) : Nat) : Int)) t4) { s with heap := h', toks := tk }) :
    wpAny (model prog w) (ktrTop dp un gd cn cs L a ccd [] []) (call (.ref 1183) [.ref y, .int 4 tz, .int W tn]) Q E s := by
  (obtain ⟨ap1, ap2, ap3, ap4, ap5, ap6, ap7, ap8, ap9⟩ := ap); (replace ap1 := neN ap1); (replace ap2 := neN ap2); (replace ap3 := neN ap3); (replace ap4 := neN ap4); (replace ap5 := neN ap5); (replace ap6 := neN ap6); (replace ap7 := neN ap7)
  have N := news_sub N0 (P1.cons (P2.cons (P3.cons (P4.cons (P5.cons sub_self))))); clear N0 P1 P2 P3 P4 P5
  refine wpAny_call ?_
  refine' code_defS0 (binds := [(Str.ofString "stream", Value.ref y), (Str.ofString "kind", Value.int 4 tz), (Str.ofString "width", Value.int W tn)]) ?k1 ?k2 ?k3 ?k4 ?k5 ?kA ?k6 ?k7 ?k8 ?k9 ?kB ?_ ?cK ?c2 ?c3 ?c4 ?c5
  case kA => exact rfl
  case k2 => k_asm
  case k1 => k_asm
  case k3 => k_asm
  case k4 => k_asm
  case k5 => k_asm
  case k6 => k_dflt k_is
  case k7 => k_dflt k_is
  case k8 => ktr_room
  case k9 => first | exact BindsTo.of_eq rfl | exact binds_K (by k_in) rfl (by k_is) rfl rfl rfl
  case kB => exact locs rfl
  case cK => assumption
  case c2 => exact rfl
  case c3 => exact rfl
  case c4 => exact rfl
  case c5 => decide
  intro g' L' h' FG' F' N' B' X' T' D'
  (try dsimp only)
  k_fold
  k_steps
  exact ret _ _ _ _ _ _ (by k_asm) (news_sub (by k_asm) (by ((repeat refine sub_cons (by k_mem) ?_); (repeat first | exact sub_self | exact sub_nil | refine sub_up ?_))))
end
end Mine
end
section
open PySem PySem.W PySem.Calls PyProof.Rows PySem.Spec
set_option maxRecDepth 100000
set_option maxHeartbeats 8000000
namespace Mine
theorem resetCheck {M : Model} {A : Around} {env : Env} {x : Str} {v : Value} {Q : Unit → Shared → Prop} {E : Value → Shared → Prop} {s : Shared} (h : wpAny M A (storeName env x v) Q E s) : wpAny M A (storeName env x v) Q E s := by
  w_top off
  k_with_none
  first
    | (walk1; fail)
    | exact h
local macro_rules | `(tactic| k_upd) => `(tactic| first | exact Pick.head | (refine' Pick.tail ?pp; (case pp => k_upd)))
local macro_rules | `(tactic| k_all) => `(tactic| assumption)
local macro_rules | `(tactic| k_room) => `(tactic| ktr_room)
local macro_rules | `(tactic| walk_at "call type:type") => `(tactic| refine call_type_of (PySem.W.typeIs_bytes _ _ _) (by decide +kernel) ?_)
local macro_rules | `(tactic| walk_at "call builtin:len") => `(tactic| (k_here; (with_reducible show wpAny _ _ (call (Value.builtin "len") [Value.ref _]) _ _ _); k_dflt (refine' len_baN ?N ?m ?z ?_; (case N => k_asm); (case m => k_mem); (case z => (first | assumption | exact Nat.le_trans (KBc.size_picked_le _ _ _) (by assumption))); k_whole); intro _ _))
local macro_rules | `(tactic| walk_at "call type:bytes") => `(tactic| (k_here; (with_reducible show wpAny _ _ (call (Value.type "bytes") [Value.ref _]) _ _ _); k_dflt (refine' bytes_baN ?N ?m ?z ?_; (case N => k_asm); (case m => k_mem); (case z => (first | assumption | exact Nat.le_trans (KBc.size_picked_le _ _ _) (by assumption))); k_whole); intro _ _))
local macro_rules | `(tactic| walk_at "subscriptTail") => `(tactic| (k_here; (with_reducible show wpAny _ _ (subscriptTail _ (Expr.Slice _ _ none _) (Value.ref _) (Value.ref _)) _ _ _); (with_reducible rename Fr _ _ _ _ => F'); (with_reducible rename News _ _ _ _ => N'); (refine cut_baN (s := ⟨_, _, _, _, _⟩) F' N' (by k_mem) (by constructor) (by constructor) (by (first | assumption | exact Nat.le_trans (KBc.size_picked_le _ _ _) (by assumption))) ?_); intro _ _ _ _ _))
local macro_rules | `(tactic| walk_at "call builtin:len") => `(tactic| (k_here; (with_reducible show wpAny _ _ (call (Value.builtin "len") [Value.bytes (rdB _ _ _) _]) _ _ _); refine len_bytes (Nat.le_trans rdB_le (by omega)) ?_))
local macro_rules | `(tactic| walk_at "call builtin:_struct.unpack") => `(tactic| (k_here; k_dflt (refine' unpackBN ?F ?N ?hb ?_; (case F => k_asm); (case N => k_asm); (case hb => assumption); k_whole); intro _ _ _ _ F' N' l1; (try k_lt l1)))
local macro_rules | `(tactic| walk_at "call type:enumerate") => `(tactic| (k_here; (with_reducible show wpAny _ _ (call (Value.type _) [Value.bytes _ _]) _ _ _); k_dflt (refine' call_enumB rfl ?hk ?F ?N ?_; (case hk => assumption); (case F => k_asm); (case N => k_asm); k_whole); intro _ _ F' N' S'))
local macro_rules | `(tactic| walk_at "pyReprObj bytes") => `(tactic| (k_here; (refine repr_bytes (by first | assumption | exact Nat.le_trans rdB_le (by omega)) (by first | assumption | exact literal_le (by first | omega | exact Nat.le_trans rdB_le (by omega))) ?_)))
local macro_rules | `(tactic| walk_at "call type:str") => `(tactic| (k_here; (with_reducible show wpAny _ _ (call (Value.type "str") [Value.ref _]) _ _ _); k_dflt (refine' str_got_one PySem.F.excStr_Exception ?N ?G ?U ?_; (case G => assumption); (case N => assumption); (case U => ((try simp only [units_mark9, depth_deeper, units_deeper, depth_in1, units_in1]); (try dsimp only [ktrTop]); omega)); k_whole)))
section
variable {w : World} {p : Program} {loose : List Str} {mean : ExcName → Option Value} {mg mb : Str → Option Value} {dp un : Nat} {gd : Option (List Code)} {cn : Str} {cs : Scope} {a : Addr} {ccd : Value} {A₀ : Around} {base h₀ : Heap} {L : Addr} {m : Str → Option Value} {s : Shared} {Q E : Value → Shared → Prop}
variable (B : Below A₀ base [] h₀) (F : Fr h₀ L s.heap m) (X : (K w.params).In h₀) (T : Top p loose mean mg mb h₀) (XB : (K w.params).In base) (TB : Top p loose mean mg mb base) (hk : cs.kind = .function)
include B F X T XB TB hk
local macro_rules | `(tactic| walk_at "call ref") => `(tactic| (k_here; k_dflt (first
  | ((with_reducible show wpAny _ _ (call (Value.ref 815) _) _ _ _); refine' ens_okW ?B ?F ?X ?T ?hk ?hd ?hu ?hp ?hz ?hx ?heq ?N0 ?P1 ?P2 ?P3 ?P4 ?P5 ?ap ?_; (case F => k_asm); (case X => k_asm); (case T => k_asm); (case B => k_asm); (case hk => (first | assumption | rfl)); (case N0 => k_asm); (case P1 => k_upd); (case P2 => k_upd); (case P3 => k_upd); (case P4 => k_upd); (case P5 => k_upd); (case ap => (exact Ap.mk (by (first | assumption | k_ne)) (by (first | assumption | k_ne)) (by (first | assumption | k_ne)) (by (first | assumption | k_ne)) (by (first | assumption | k_ne)) (by (first | assumption | k_ne)) (by (first | assumption | k_ne)) (by k_all) (by k_all))); (case hd => (first | omega | ((try simp only [depth_deeper, units_deeper, depth_in1, units_in1]); (try dsimp only [ktrTop]); omega))); (case hu => (first | omega | ((try simp only [depth_deeper, units_deeper, depth_in1, units_in1]); (try dsimp only [ktrTop]); omega))); (case hp => (first | omega | ((try simp only [depth_deeper, units_deeper, depth_in1, units_in1]); (try dsimp only [ktrTop]); omega))); (case hz => assumption); (case hx => assumption); (case heq => assumption); k_whole; intro _ _ _ _ F' N'))))
theorem check_ok {σ : Sd} {β : Bd} {y e d : Addr} {b : Array UInt8} {rest : List (Addr × Obj)} {bl bits : Int} {u1 u2 t : Tok} {pos : Nat} {wl : Addr} {vs : List Value} {ns : List Int} {c : Nat} {l5 : List (Addr × Obj)} (hd : dp + 218 < recursionLimit) (hu : un + 2180 < cLine) (hp : pos ≤ 1000000000) (hz : b.size ≤ 16777216)
    (hw : IntsAre vs ns) (hr : ∀ n ∈ ns, 0 ≤ n ∧ n < 256) (hlen : ns.length ≤ 1000) (hx : (byteArr ns).size ≤ 1000) (heq : rdB b pos (byteArr ns).size = byteArr ns)
    {l l1 l2 l3 l4 : List (Addr × Obj)} (N0 : News h₀ L s.heap l) (P1 : Pick (y, instObj 1075 e) l l1) (P2 : Pick (e, sdict w σ (bl) u1 (bits) u2) l1 l2) (P3 : Pick (σ.io, instObj 350 d) l2 l3) (P4 : Pick (d, bdict w β ((pos : Int)) t) l3 l4) (P5 : Pick (β.ba, baObj b) l4 rest) (P6 : Pick (wl, PySem.W.listOf vs.toArray c) rest l5) (ap : Ap y e σ.io d β.ba rest)
    (ret : ∀ h' tk D t1 w1 w2, Fr h₀ L h' m → News h₀ L h' ((D, PySem.W.listOf #[.str (Str.ofString "told") w1, .bytes (byteArr ns) w2] 0) :: ((y, instObj 1075 e) :: (e, sdict w σ (bl) u1 (bits) u2) :: (σ.io, instObj 350 d) :: (d, bdict w β ((rdP b.size pos (byteArr ns).size : Nat)) t1) :: (β.ba, baObj b) :: rest)) → Q (.ref D) { s with heap := h', toks := tk }) :
    wpAny (model prog w) (ktrTop dp un gd cn cs L a ccd [] []) (call (.ref 1190) [.ref y, .ref wl]) Q E s := by
  (obtain ⟨ap1, ap2, ap3, ap4, ap5, ap6, ap7, ap8, ap9⟩ := ap); (replace ap1 := neN ap1); (replace ap2 := neN ap2); (replace ap3 := neN ap3); (replace ap4 := neN ap4); (replace ap5 := neN ap5); (replace ap6 := neN ap6); (replace ap7 := neN ap7)
  have hwm : (wl, PySem.W.listOf vs.toArray c) ∈ rest := P6.mem _ (.head _)
  have N := news_sub N0 (P1.cons (P2.cons (P3.cons (P4.cons (P5.cons sub_self))))); clear N0 P1 P2 P3 P4 P5
  replace N := news_sub (r := (wl, PySem.W.listOf vs.toArray c) :: ((y, instObj 1075 e) :: (e, sdict w σ (bl) u1 (bits) u2) :: (σ.io, instObj 350 d) :: (d, bdict w β ((pos : Int)) t) :: (β.ba, baObj b) :: rest)) N (sub_cons (.tail _ (.tail _ (.tail _ (.tail _ (.tail _ hwm))))) sub_self)
  have nw1 := ap8 _ hwm
  have nw2 := ap9 _ hwm
  dsimp only at nw1 nw2
  replace nw1 := neN nw1
  replace nw2 := neN nw2
  clear P6 hwm
  refine wpAny_call ?_
  refine' code_defS0 (binds := [(Str.ofString "stream", Value.ref y), (Str.ofString "wanted", Value.ref wl)]) ?k1 ?k2 ?k3 ?k4 ?k5 ?kA ?k6 ?k7 ?k8 ?k9 ?kB ?_ ?cK ?c2 ?c3 ?c4 ?c5
  case kA => exact rfl
  case k2 => k_asm
  case k1 => k_asm
  case k3 => k_asm
  case k4 => k_asm
  case k5 => k_asm
  case k6 => k_dflt k_is
  case k7 => k_dflt k_is
  case k8 => ktr_room
  case k9 => first | exact BindsTo.of_eq rfl | exact binds_K (by k_in) rfl (by k_is) rfl rfl rfl
  case kB => exact locs rfl
  case cK => assumption
  case c2 => exact rfl
  case c3 => exact rfl
  case c4 => exact rfl
  case c5 => decide
  intro g' L' h' FG' F' N' B' X' T' D'
  (try dsimp only)
  k_fold
  k_steps
  exact ret _ _ _ _ _ _ (by k_asm) (news_sub (by k_asm) (by ((repeat refine sub_cons (by k_mem) ?_); (repeat first | exact sub_self | exact sub_nil | refine sub_up ?_))))
local macro_rules | `(tactic| walk_at "call ref") => `(tactic| (k_here; k_dflt (first
  | ((with_reducible show wpAny _ _ (call (Value.ref 815) _) _ _ _); refine' ens_badW ?B ?F ?X ?T ?hk ?hd ?hu ?hp ?hz ?hx ?hne ?hl1 ?hl2 ?N0 ?P1 ?P2 ?P3 ?P4 ?P5 ?ap ?_; (case F => k_asm); (case X => k_asm); (case T => k_asm); (case B => k_asm); (case hk => (first | assumption | rfl)); (case N0 => k_asm); (case P1 => k_upd); (case P2 => k_upd); (case P3 => k_upd); (case P4 => k_upd); (case P5 => k_upd); (case ap => (exact Ap.mk (by (first | assumption | k_ne)) (by (first | assumption | k_ne)) (by (first | assumption | k_ne)) (by (first | assumption | k_ne)) (by (first | assumption | k_ne)) (by (first | assumption | k_ne)) (by (first | assumption | k_ne)) (by k_all) (by k_all))); (case hd => (first | omega | ((try simp only [depth_deeper, units_deeper, depth_in1, units_in1]); (try dsimp only [ktrTop]); omega))); (case hu => (first | omega | ((try simp only [depth_deeper, units_deeper, depth_in1, units_in1]); (try dsimp only [ktrTop]); omega))); (case hp => (first | omega | ((try simp only [depth_deeper, units_deeper, depth_in1, units_in1]); (try dsimp only [ktrTop]); omega))); (case hz => assumption); (case hx => assumption); (case hne => assumption); (case hl1 => assumption); (case hl2 => assumption); k_whole; intro _ _ _ _ _ _ _ F' R' U'))))
theorem check_bad {σ : Sd} {β : Bd} {y e d : Addr} {b : Array UInt8} {rest : List (Addr × Obj)} {bl bits : Int} {u1 u2 t : Tok} {pos : Nat} {wl : Addr} {vs : List Value} {ns : List Int} {c : Nat} {l5 : List (Addr × Obj)} (hd : dp + 218 < recursionLimit) (hu : un + 2180 < cLine) (hp : pos ≤ 1000000000) (hz : b.size ≤ 16777216)
    (hw : IntsAre vs ns) (hr : ∀ n ∈ ns, 0 ≤ n ∧ n < 256) (hlen : ns.length ≤ 1000) (hx : (byteArr ns).size ≤ 1000) (hne : ((rdB b pos (byteArr ns).size).toList != (byteArr ns).toList) = true) (hl1 : (PySem.Builtin.Bytes.literal (rdB b pos (byteArr ns).size)).length ≤ 5000) (hl2 : (PySem.Builtin.Bytes.literal (byteArr ns)).length ≤ 5000)
    {l l1 l2 l3 l4 : List (Addr × Obj)} (N0 : News h₀ L s.heap l) (P1 : Pick (y, instObj 1075 e) l l1) (P2 : Pick (e, sdict w σ (bl) u1 (bits) u2) l1 l2) (P3 : Pick (σ.io, instObj 350 d) l2 l3) (P4 : Pick (d, bdict w β ((pos : Int)) t) l3 l4) (P5 : Pick (β.ba, baObj b) l4 rest) (P6 : Pick (wl, PySem.W.listOf vs.toArray c) rest l5) (ap : Ap y e σ.io d β.ba rest)
    (ret : ∀ h' tk D t1 w1 w2, Fr h₀ L h' m → News h₀ L h' ((D, PySem.W.listOf #[.str (Str.ofString "plain") w1, .str (badTxt (rdB b pos (byteArr ns).size) (byteArr ns)) w2] 0) :: ((y, instObj 1075 e) :: (e, sdict w σ (bl) u1 (bits) u2) :: (σ.io, instObj 350 d) :: (d, bdict w β ((rdP b.size pos (byteArr ns).size : Nat)) t1) :: (β.ba, baObj b) :: rest)) → Q (.ref D) { s with heap := h', toks := tk }) :
    wpAny (model prog w) (ktrTop dp un gd cn cs L a ccd [] []) (call (.ref 1190) [.ref y, .ref wl]) Q E s := by
  (obtain ⟨ap1, ap2, ap3, ap4, ap5, ap6, ap7, ap8, ap9⟩ := ap); (replace ap1 := neN ap1); (replace ap2 := neN ap2); (replace ap3 := neN ap3); (replace ap4 := neN ap4); (replace ap5 := neN ap5); (replace ap6 := neN ap6); (replace ap7 := neN ap7)
  have hwm : (wl, PySem.W.listOf vs.toArray c) ∈ rest := P6.mem _ (.head _)
  have N := news_sub N0 (P1.cons (P2.cons (P3.cons (P4.cons (P5.cons sub_self))))); clear N0 P1 P2 P3 P4 P5
  replace N := news_sub (r := (wl, PySem.W.listOf vs.toArray c) :: ((y, instObj 1075 e) :: (e, sdict w σ (bl) u1 (bits) u2) :: (σ.io, instObj 350 d) :: (d, bdict w β ((pos : Int)) t) :: (β.ba, baObj b) :: rest)) N (sub_cons (.tail _ (.tail _ (.tail _ (.tail _ (.tail _ hwm))))) sub_self)
  have nw1 := ap8 _ hwm
  have nw2 := ap9 _ hwm
  dsimp only at nw1 nw2
  replace nw1 := neN nw1
  replace nw2 := neN nw2
  clear P6 hwm
  refine wpAny_call ?_
  refine' code_defS0 (binds := [(Str.ofString "stream", Value.ref y), (Str.ofString "wanted", Value.ref wl)]) ?k1 ?k2 ?k3 ?k4 ?k5 ?kA ?k6 ?k7 ?k8 ?k9 ?kB ?_ ?cK ?c2 ?c3 ?c4 ?c5
  case kA => exact rfl
  case k2 => k_asm
  case k1 => k_asm
  case k3 => k_asm
  case k4 => k_asm
  case k5 => k_asm
  case k6 => k_dflt k_is
  case k7 => k_dflt k_is
  case k8 => ktr_room
  case k9 => first | exact BindsTo.of_eq rfl | exact binds_K (by k_in) rfl (by k_is) rfl rfl rfl
  case kB => exact locs rfl
  case cK => assumption
  case c2 => exact rfl
  case c3 => exact rfl
  case c4 => exact rfl
  case c5 => decide
  intro g' L' h' FG' F' N' B' X' T' D'
  (try dsimp only)
  k_fold
  k_steps
  exact ret _ _ _ _ _ _ (by k_asm) (news_sub (by k_asm) (by ((repeat refine sub_cons (by k_mem) ?_); (repeat first | exact sub_self | exact sub_nil | refine sub_up ?_))))
end
end Mine
end
section
open PySem PySem.W PySem.Calls PyProof.Rows PySem.Spec
set_option maxRecDepth 100000
set_option maxHeartbeats 8000000
namespace Mine
theorem resetLaw1 {M : Model} {A : Around} {env : Env} {x : Str} {v : Value} {Q : Unit → Shared → Prop} {E : Value → Shared → Prop} {s : Shared} (h : wpAny M A (storeName env x v) Q E s) : wpAny M A (storeName env x v) Q E s := by
  w_top off
  k_with_none
  first
    | (walk1; fail)
    | exact h
local macro_rules | `(tactic| k_upd) => `(tactic| first | exact Pick.head | (refine' Pick.tail ?pp; (case pp => k_upd)))
local macro_rules | `(tactic| k_all) => `(tactic| assumption)
local macro_rules | `(tactic| k_room) => `(tactic| ktr_room)
local macro_rules | `(tactic| walk_at "call type:type") => `(tactic| refine call_type_of (PySem.W.typeIs_bytes _ _ _) (by decide +kernel) ?_)
local macro_rules | `(tactic| walk_at "call builtin:len") => `(tactic| (k_here; (with_reducible show wpAny _ _ (call (Value.builtin "len") [Value.ref _]) _ _ _); k_dflt (refine' len_baN ?N ?m ?z ?_; (case N => k_asm); (case m => k_mem); (case z => (first | assumption | exact Nat.le_trans (KBc.size_picked_le _ _ _) (by assumption))); k_whole); intro _ _))
local macro_rules | `(tactic| walk_at "call type:bytes") => `(tactic| (k_here; (with_reducible show wpAny _ _ (call (Value.type "bytes") [Value.ref _]) _ _ _); k_dflt (refine' bytes_baN ?N ?m ?z ?_; (case N => k_asm); (case m => k_mem); (case z => (first | assumption | exact Nat.le_trans (KBc.size_picked_le _ _ _) (by assumption))); k_whole); intro _ _))
local macro_rules | `(tactic| walk_at "subscriptTail") => `(tactic| (k_here; (with_reducible show wpAny _ _ (subscriptTail _ (Expr.Slice _ _ none _) (Value.ref _) (Value.ref _)) _ _ _); (with_reducible rename Fr _ _ _ _ => F'); (with_reducible rename News _ _ _ _ => N'); (refine cut_baN (s := ⟨_, _, _, _, _⟩) F' N' (by k_mem) (by constructor) (by constructor) (by (first | assumption | exact Nat.le_trans (KBc.size_picked_le _ _ _) (by assumption))) ?_); intro _ _ _ _ _))
local macro_rules | `(tactic| walk_at "call builtin:len") => `(tactic| (k_here; (with_reducible show wpAny _ _ (call (Value.builtin "len") [Value.bytes (rdB _ _ _) _]) _ _ _); refine len_bytes (Nat.le_trans rdB_le (by omega)) ?_))
local macro_rules | `(tactic| walk_at "call builtin:_struct.unpack") => `(tactic| (k_here; k_dflt (refine' unpackBN ?F ?N ?hb ?_; (case F => k_asm); (case N => k_asm); (case hb => assumption); k_whole); intro _ _ _ _ F' N' l1; (try k_lt l1)))
local macro_rules | `(tactic| walk_at "call type:enumerate") => `(tactic| (k_here; (with_reducible show wpAny _ _ (call (Value.type _) [Value.bytes _ _]) _ _ _); k_dflt (refine' call_enumB rfl ?hk ?F ?N ?_; (case hk => assumption); (case F => k_asm); (case N => k_asm); k_whole); intro _ _ F' N' S'))
local macro_rules | `(tactic| walk_at "pyReprObj bytes") => `(tactic| (k_here; (refine repr_bytes (by first | assumption | exact Nat.le_trans rdB_le (by omega)) (by first | assumption | exact literal_le (by first | omega | exact Nat.le_trans rdB_le (by omega))) ?_)))
theorem turn2 {pre ns : List Int} {k x : Int} (h0 : 0 ≤ x) (h : x = pre.foldl (fun a k => a * 2 + k) 0) (hm : k ∈ ns) (hb : ∀ n ∈ ns, 0 ≤ n ∧ n ≤ 1) : 0 ≤ x * 2 + k ∧ x * 2 + k = (pre ++ [k]).foldl (fun a k => a * 2 + k) 0 := by
  have := hb k hm
  rw [List.foldl_append, List.foldl_cons, List.foldl_nil, ← h]
  omega
section
variable {w : World} {p : Program} {loose : List Str} {mean : ExcName → Option Value} {mg mb : Str → Option Value} {dp un : Nat} {gd : Option (List Code)} {cn : Str} {cs : Scope} {a : Addr} {ccd : Value} {cl : List (Str × Addr)} {outer : List Env} {A₀ : Around} {base h₀ : Heap} {L : Addr} {m : Str → Option Value} {s : Shared} {Q E : Value → Shared → Prop}
variable (B : Below A₀ base outer h₀) (F : Fr h₀ L s.heap m) (X : (K w.params).In h₀) (T : Top p loose mean mg mb h₀) (hk : cs.kind = .function)
include B F X T hk
theorem short_spec {many there : Int} {t1 t2 : Tok} {l : List (Addr × Obj)} (hd : dp + 8 < recursionLimit) (hu : un + 80 < cLine) (h0 : 0 ≤ many) (h1 : many ≤ 100000) (h2 : 0 ≤ there) (h3 : there ≤ 100000)
    (N : News h₀ L s.heap l)
    (ret : ∀ h' tk D w1 w4, Fr h₀ L h' m → News h₀ L h' ((D, PySem.W.listOf #[.str (Str.ofString "end") w1, .int many t1, .int there t2, .str (shortTxt many there) w4] 0) :: l) → Q (.ref D) { s with heap := h', toks := tk }) :
    wpAny (model prog w) (ktrTop dp un gd cn cs L a ccd cl outer) (call (.ref 1169) [.int many t1, .int there t2]) Q E s := by
  refine wpAny_call ?_
  refine' code_def (binds := [(Str.ofString "many", Value.int many t1), (Str.ofString "there", Value.int there t2)]) ?k1 ?k2 ?k3 ?k4 ?k5 ?kA ?kF ?kK ?k6 ?k7 ?k8 ?k9 ?kB ?_ ?c2 ?c3 ?c4 ?c5
  case kA => exact rfl
  case kF => exact rfl
  case kK => assumption
  case k1 => k_asm
  case k2 => k_asm
  case k3 => k_asm
  case k4 => k_asm
  case k5 => k_asm
  case k6 => k_dflt k_is
  case k7 => k_dflt k_is
  case k8 => ktr_room
  case k9 => first | exact BindsTo.of_eq rfl | exact binds_K (by k_in) rfl (by k_is) rfl rfl rfl
  case c5 => decide
  case kB => exact locs rfl
  case c2 => exact rfl
  case c3 => exact rfl
  case c4 => exact rfl
  intro g' L' h' FG' F' N' B' X' T'
  (try dsimp only)
  k_fold
  k_steps
  exact ret _ _ _ _ _ (by k_asm) (news_sub (by k_asm) (by ((repeat refine sub_cons (by k_mem) ?_); (repeat first | exact sub_self | exact sub_nil | refine sub_up ?_))))
theorem digits_spec {o : Int} {t1 : Tok} {l : List (Addr × Obj)} (hd : dp + 8 < recursionLimit) (hu : un + 80 < cLine) (h0 : 0 ≤ o) (h1 : o < 256)
    (N : News h₀ L s.heap l)
    (ret : ∀ h' tk D (vs : List Value) c, Fr h₀ L h' m → News h₀ L h' ((D, PySem.W.listOf vs.toArray c) :: l) → IntsAre vs (digs o) → Q (.ref D) { s with heap := h', toks := tk }) :
    wpAny (model prog w) (ktrTop dp un gd cn cs L a ccd cl outer) (call (.ref 1155) [.int o t1]) Q E s := by
  refine wpAny_call ?_
  refine' code_defC (binds := [(Str.ofString "octet", Value.int o t1)]) ?k1 ?k2 ?k3 ?k4 ?k5 ?kA ?kF ?kK ?k6 ?k7 ?k8 ?k9 ?kB ?kD ?_ ?c2 ?c3 ?c4
  case kA => exact rfl
  case kF => exact rfl
  case kK => assumption
  case k1 => k_asm
  case k2 => k_asm
  case k3 => k_asm
  case k4 => k_asm
  case k5 => k_asm
  case k6 => k_dflt k_is
  case k7 => k_dflt k_is
  case k8 => ktr_room
  case k9 => first | exact BindsTo.of_eq rfl | exact binds_K (by k_in) rfl (by k_is) rfl rfl rfl
  case kB => exact rfl
  case kD => decide +kernel
  case c2 => exact rfl
  case c3 => exact rfl
  case c4 => exact rfl
  k_whole
  intro g' L' h' tk' cells' FG' F' N' Y' B' X' T' l1
  (try k_lt l1)
  k_cells Y'
  (try simp only [List.cons_append, List.nil_append] at N')
  (try dsimp only)
  (try k_lift B')
  (try k_fold)
  k_steps
  exact ret _ _ _ _ _ (by k_asm) (news_sub (by k_asm) (by ((repeat refine sub_cons (by k_mem) ?_); (repeat first | exact sub_self | exact sub_nil | refine sub_up ?_)))) (by assumption)
theorem worth_spec {dl : Addr} {vs : List Value} {ns : List Int} {c : Nat} {l : List (Addr × Obj)} (hd : dp + 8 < recursionLimit) (hu : un + 80 < cLine) (hi : IntsAre vs ns) (hb : ∀ n ∈ ns, 0 ≤ n ∧ n ≤ 1) (hl : ns.length ≤ 40)
    (N : News h₀ L s.heap l) (hm : (dl, PySem.W.listOf vs.toArray c) ∈ l)
    (ret : ∀ h' tk t', Fr h₀ L h' m → News h₀ L h' l → Q (.int (ns.foldl (fun a k => a * 2 + k) 0) t') { s with heap := h', toks := tk }) :
    wpAny (model prog w) (ktrTop dp un gd cn cs L a ccd cl outer) (call (.ref 1162) [.ref dl]) Q E s := by
  replace N := news_sub (r := (dl, PySem.W.listOf vs.toArray c) :: l) N (sub_cons hm sub_self)
  refine wpAny_call ?_
  refine' code_def (binds := [(Str.ofString "digits", Value.ref dl)]) ?k1 ?k2 ?k3 ?k4 ?k5 ?kA ?kF ?kK ?k6 ?k7 ?k8 ?k9 ?kB ?_ ?c2 ?c3 ?c4 ?c5
  case kA => exact rfl
  case kF => exact rfl
  case kK => assumption
  case k1 => k_asm
  case k2 => k_asm
  case k3 => k_asm
  case k4 => k_asm
  case k5 => k_asm
  case k6 => k_dflt k_is
  case k7 => k_dflt k_is
  case k8 => ktr_room
  case k9 => first | exact BindsTo.of_eq rfl | exact binds_K (by k_in) rfl (by k_is) rfl rfl rfl
  case c5 => decide
  case kB => exact locs rfl
  case c2 => exact rfl
  case c3 => exact rfl
  case c4 => exact rfl
  intro g' L' h' FG' F' N' B' X' T'
  (try dsimp only)
  k_fold
  k_with "pyIter ref" => k_state (fun pre worth => 0 ≤ worth ∧ worth = pre.foldl (fun a k => a * 2 + k) 0) "worth"
  k_with "state" => (first | exact ⟨by decide, rfl⟩ | exact turn2 (by assumption) (by assumption) (by assumption) (by assumption))
  k_steps
  rename (_ : Int) = List.foldl _ _ ns => hF
  subst hF
  exact ret _ _ _ (by k_asm) (news_sub (by k_asm) (by ((repeat refine sub_cons (by k_mem) ?_); (repeat first | exact sub_self | exact sub_nil | refine sub_up ?_))))
end
end Mine
end
section
open PySem PySem.W PySem.Calls PyProof.Rows PySem.Spec
set_option maxRecDepth 100000
set_option maxHeartbeats 4000000
namespace Mine
theorem resetLoop {M : Model} {A : Around} {env : Env} {x : Str} {v : Value} {Q : Unit → Shared → Prop} {E : Value → Shared → Prop} {s : Shared} (h : wpAny M A (storeName env x v) Q E s) : wpAny M A (storeName env x v) Q E s := by
  w_top off
  k_with_none
  first
    | (walk1; fail)
    | exact h
def StepEnd (h₀ : Heap) (L : Addr) (J : (Str → Option Value) → List (Addr × Obj) → Prop) (own : List (Addr × Obj)) (I : Addr) (s₁ : Shared) (Q : Flow → Shared → Prop) (f : Flow) (s₂ : Shared) : Prop :=
  match f with
  | .ret v => Q (.ret v) s₂
  | .brk => Q .next s₂
  | _ => ∃ h' tk m' nx, s₂ = { s₁ with heap := h', toks := tk } ∧ Fr h₀ L h' m' ∧ News h₀ L h' (nx ++ own) ∧ (∀ p ∈ nx, p.1 ≠ I) ∧ J m' nx
def IterCls (o : Obj) : Prop := o.cls = .type "list_iterator" ∨ o.cls = .type "range_iterator"
theorem ne_of_cls {h₀ h : Heap} {L a b : Addr} {l : List (Addr × Obj)} {o1 o2 : Obj} (N : News h₀ L h l) (h1 : (a, o1) ∈ l) (h2 : (b, o2) ∈ l) (hc : o1.cls ≠ o2.cls) : a ≠ b := by
  rintro rfl
  have e1 := (N _ h1).1
  have e2 := (N _ h2).1
  exact hc (congrArg Obj.cls (Option.some.inj (e1.symm.trans e2)))
theorem ne_iter {h₀ h : Heap} {L a b : Addr} {l : List (Addr × Obj)} {o1 o2 : Obj} (N : News h₀ L h l) (h1 : (a, o1) ∈ l) (h2 : (b, o2) ∈ l) (hc : ¬ IterCls o1) (hi : IterCls o2) : a ≠ b :=
  ne_of_cls N h1 h2 fun e => hc (by unfold IterCls at hi ⊢; rw [e]; exact hi)
section
variable {prog : Program} {w : World} {A : Around} {E : Value → Shared → Prop} {s : Shared} {env : Env} {h₀ : Heap} {x : Str} {body : List Stmt} {Q : Flow → Shared → Prop}
theorem loop_any {I : Addr} {fp : List Addr} {n : Nat} {P : Nat → Value → Prop} {St : Nat → Heap → Prop} {m₀ : Str → Option Value} {news : List (Addr × Obj)} (J : Nat → (Str → Option Value) → List (Addr × Obj) → Prop)
    (W : Walks prog w A I fp [I] n P St) (hLf : env.locals ∉ fp) (hI : h₀.get? I = none) (hnI : ∀ p ∈ news, p.1 ≠ I) (hst : St 0 s.heap) (hit : ∀ i h, St i h → ∃ o, h.get? I = some o ∧ IterCls o) (F : Fr h₀ env.locals s.heap m₀) (N : News h₀ env.locals s.heap news) (hj : J 0 m₀ news)
    (turn : ∀ i v m₁ news₁ h tk own, i < n → P i v → (∀ p ∈ own, p.1 ∈ fp) → (∃ o, (I, o) ∈ own ∧ IterCls o) → (∀ p ∈ news₁, p.1 ≠ I) → J i m₁ news₁ → Fr h₀ env.locals h (fun y => if y = x then some v else m₁ y) → News h₀ env.locals h (news₁ ++ own) →
      wpAny (model prog w) A (execs body env) (StepEnd h₀ env.locals (J (i + 1)) own I { s with heap := h, toks := tk } Q) E { s with heap := h, toks := tk })
    (done : ∀ m₁ news₁ h tk, J n m₁ news₁ → Fr h₀ env.locals h m₁ → News h₀ env.locals h news₁ → Q .next { s with heap := h, toks := tk }) :
    LoopAtV prog w A h₀ env x body Q E (.ref I) s := by
  refine ⟨I, fp, [I], n, P, St, m₀, news, J, rfl, W, hLf, ?_, fun p hp hm => hnI p hp (List.mem_singleton.mp hm), hst, F, N, hj, ?_, ?_⟩
  · intro b hb
    rw [List.mem_singleton.mp hb]
    exact hI
  · rintro i v m₁ news₁ s₁ own ⟨hh', tk', rfl⟩ hin hP hJ hoff hown _ hfp hSt F₁ N₁
    have hio : ∃ o, (I, o) ∈ own ∧ IterCls o := by
      obtain ⟨o, ho, hc⟩ := hit _ _ hSt
      exact ⟨o, hfp I (W.sub I (List.mem_singleton.mpr rfl)) hI o ho, hc⟩
    have N₂ : News h₀ env.locals hh' (news₁ ++ own) := fun p hp => N₁ p ((List.mem_append.mp hp).elim (fun h => List.mem_append.mpr (.inr h)) fun h => List.mem_append.mpr (.inl h))
    refine wpAny_mono (turn i v m₁ news₁ hh' tk' own hin hP hown hio (fun p hp e => hoff p hp (List.mem_singleton.mpr e)) hJ F₁ N₂) (fun f s₂ p => ?_) fun _ _ e => e
    have fin : (∃ h' tk m' nx, s₂ = { ({ s with heap := hh', toks := tk' } : Shared) with heap := h', toks := tk } ∧ Fr h₀ env.locals h' m' ∧ News h₀ env.locals h' (nx ++ own) ∧ (∀ p ∈ nx, p.1 ≠ I) ∧ J (i + 1) m' nx) → LoopStepU h₀ env.locals [I] own (J (i + 1)) { s with heap := hh', toks := tk' } .next s₂ := by
      rintro ⟨h', tk, m', nx, e, F', N', hn, hm⟩
      exact ⟨rfl, h', tk, m', nx, e, F', fun p hp => N' p ((List.mem_append.mp hp).elim (fun h => List.mem_append.mpr (.inr h)) fun h => List.mem_append.mpr (.inl h)), fun p hp hq => hn p hp (List.mem_singleton.mp hq), hm⟩
    cases f with
    | ret v => exact .ret p
    | brk => exact .brk p
    | next => exact .next (fin p)
    | cont => exact .cont (fin p)
  · intro h' tk m' news' F' N' _ hJ
    exact done m' news' h' tk hJ F' N'
/-- a loop over a list of ints that the call has made -/
theorem loop_list {l : Addr} {vs : List Value} {ns : List Int} {c : Nat} {m₀ : Str → Option Value} {news : List (Addr × Obj)} (J : Nat → (Str → Option Value) → List (Addr × Obj) → Prop)
    (hh : A.handled = none) (hl : (l, PySem.W.listOf vs.toArray c) ∈ news) (hi : IntsAre vs ns) (F : Fr h₀ env.locals s.heap m₀) (N : News h₀ env.locals s.heap news) (hj : J 0 m₀ news)
    (turn : ∀ i k t m₁ news₁ h tk own I, ns[i]? = some k → (∀ p ∈ own, p.1 = I ∨ p.1 = l) → (∃ o, (I, o) ∈ own ∧ IterCls o) → (∀ p ∈ news₁, p.1 ≠ I) → J i m₁ news₁ → Fr h₀ env.locals h (fun y => if y = x then some (.int k t) else m₁ y) → News h₀ env.locals h (news₁ ++ own) →
      wpAny (model prog w) A (execs body env) (StepEnd h₀ env.locals (J (i + 1)) own I { s with heap := h, toks := tk } Q) E { s with heap := h, toks := tk })
    (done : ∀ m₁ news₁ h tk, J ns.length m₁ news₁ → Fr h₀ env.locals h m₁ → News h₀ env.locals h news₁ → Q .next { s with heap := h, toks := tk }) :
    wpAny (model prog w) A (pyIter (.ref l)) (fun it s₂ => LoopAtV prog w A h₀ env x body Q E it s₂) E s := by
  have hol : s.heap.get? l = some (PySem.W.listOf vs.toArray c) := (N _ hl).1
  have hls : s.heap.IsList l vs.toArray := ⟨_, hol, rfl, c, rfl⟩
  have hne : l ≠ s.heap.objs.size := Nat.ne_of_lt (Heap.lt_size hol)
  refine wpAny_pyIter_list hls ?_
  have W := Walks.list (prog := prog) (w := w) hh s.heap.objs.size l hne vs.toArray
  have hlen : vs.toArray.size = ns.length := by simp [hi.length]
  rw [hlen] at W
  refine loop_any J W ?_ (next_is_new F) (fun p hp => Nat.ne_of_lt (Heap.lt_size (N p hp).1)) ⟨⟨_, Heap.get?_push_size _ rfl, rfl, rfl⟩, hls.at fun o e => Heap.get?_push_of_some _ e⟩ (fun i h st => let ⟨⟨o, ho, hc, _⟩, _⟩ := st; ⟨o, ho, .inl hc⟩) (F.push _) (fun p hp => ⟨Heap.get?_push_of_some _ (N p hp).1, (N p hp).2⟩) hj ?_ ?_
  · intro hm
    rcases List.mem_cons.mp hm with e | hm
    · exact absurd F.ns.lt (e ▸ Nat.lt_irrefl _)
    · exact (N _ hl).2.1 ((List.mem_singleton.mp hm).symm)
  · intro i v m₁ news₁ h tk own hin hP hown hio hnI hJ F₁ N₁
    have hlt' : i < ns.length := hin
    obtain ⟨t, hx⟩ := hi.get i ns[i] (by simp [hlt'])
    have hv : v = .int ns[i] t := by
      have hP' : vs[i]? = some v := by simpa using hP
      rw [hx] at hP'; exact (Option.some.inj hP').symm
    subst hv
    exact turn i ns[i] t m₁ news₁ h tk own _ (by simp [hlt']) (fun p hp => (List.mem_cons.mp (hown p hp)).elim .inl fun h => .inr (List.mem_singleton.mp h)) hio hnI hJ F₁ N₁
  · intro m₁ news₁ h tk hJ F₁ N₁
    exact done m₁ news₁ h tk hJ F₁ N₁
/-- a loop over a range -/
theorem loop_range {r : Addr} {a b c : Int} {t u v : Tok} {n : Nat} {m₀ : Str → Option Value} {news : List (Addr × Obj)} (J : Nat → (Str → Option Value) → List (Addr × Obj) → Prop)
    (hh : A.handled = none) (hr : IsRange s.heap r a b c t u v) (hsm : Builtin.Range.small a b c = true) (hn : Builtin.Range.rangeSize a b c = ((n : Nat) : Int)) (F : Fr h₀ env.locals s.heap m₀) (N : News h₀ env.locals s.heap news) (hj : J 0 m₀ news)
    (turn : ∀ i t m₁ news₁ h tk own I, i < n → (∀ p ∈ own, p.1 = I) → (∃ o, (I, o) ∈ own ∧ IterCls o) → (∀ p ∈ news₁, p.1 ≠ I) → J i m₁ news₁ → Fr h₀ env.locals h (fun y => if y = x then some (.int (a + i * c) t) else m₁ y) → News h₀ env.locals h (news₁ ++ own) →
      wpAny (model prog w) A (execs body env) (StepEnd h₀ env.locals (J (i + 1)) own I { s with heap := h, toks := tk } Q) E { s with heap := h, toks := tk })
    (done : ∀ m₁ news₁ h tk, J n m₁ news₁ → Fr h₀ env.locals h m₁ → News h₀ env.locals h news₁ → Q .next { s with heap := h, toks := tk }) :
    wpAny (model prog w) A (pyIter (.ref r)) (fun it s₂ => LoopAtV prog w A h₀ env x body Q E it s₂) E s := by
  refine wpAny_pyIter_range hr hsm ?_
  have W := Walks.range (prog := prog) (w := w) hh s.heap.objs.size a c n
  refine loop_any J W ?_ (next_is_new F) (fun p hp => Nat.ne_of_lt (Heap.lt_size (N p hp).1)) ?_ (fun i h st => ⟨_, st, .inr rfl⟩) (F.push _) (fun p hp => ⟨Heap.get?_push_of_some _ (N p hp).1, (N p hp).2⟩) hj ?_ ?_
  · intro hm
    exact absurd F.ns.lt ((List.mem_singleton.mp hm) ▸ Nat.lt_irrefl _)
  · show (s.heap.push _).get? s.heap.objs.size = some _
    rw [Heap.get?_push_size _ rfl, hn]
    simp [rawInt]
  · intro i v m₁ news₁ h tk own hin hP hown hio hnI hJ F₁ N₁
    obtain ⟨t, rfl⟩ := hP
    exact turn i t m₁ news₁ h tk own _ hin (fun p hp => List.mem_singleton.mp (hown p hp)) hio hnI hJ F₁ N₁
  · intro m₁ news₁ h tk hJ F₁ N₁
    exact done m₁ news₁ h tk hJ F₁ N₁
end
end Mine
end
section
open PySem PySem.W PySem.Calls PyProof.Rows PySem.Spec
set_option maxRecDepth 100000
set_option maxHeartbeats 8000000
namespace Mine
theorem resetLb {M : Model} {A : Around} {env : Env} {x : Str} {v : Value} {Q : Unit → Shared → Prop} {E : Value → Shared → Prop} {s : Shared} (h : wpAny M A (storeName env x v) Q E s) : wpAny M A (storeName env x v) Q E s := by
  w_top off
  k_with_none
  first
    | (walk1; fail)
    | exact h
local macro_rules | `(tactic| k_upd) => `(tactic| first | exact Pick.head | (refine' Pick.tail ?pp; (case pp => k_upd)))
local macro_rules | `(tactic| k_all) => `(tactic| assumption)
local macro_rules | `(tactic| k_room) => `(tactic| ktr_room)
local macro_rules | `(tactic| walk_at "call type:type") => `(tactic| refine call_type_of (PySem.W.typeIs_bytes _ _ _) (by decide +kernel) ?_)
local macro_rules | `(tactic| walk_at "call builtin:len") => `(tactic| (k_here; (with_reducible show wpAny _ _ (call (Value.builtin "len") [Value.ref _]) _ _ _); k_dflt (refine' len_baN ?N ?m ?z ?_; (case N => k_asm); (case m => k_mem); (case z => (first | assumption | exact Nat.le_trans (KBc.size_picked_le _ _ _) (by assumption))); k_whole); intro _ _))
local macro_rules | `(tactic| walk_at "call type:bytes") => `(tactic| (k_here; (with_reducible show wpAny _ _ (call (Value.type "bytes") [Value.ref _]) _ _ _); k_dflt (refine' bytes_baN ?N ?m ?z ?_; (case N => k_asm); (case m => k_mem); (case z => (first | assumption | exact Nat.le_trans (KBc.size_picked_le _ _ _) (by assumption))); k_whole); intro _ _))
local macro_rules | `(tactic| walk_at "subscriptTail") => `(tactic| (k_here; (with_reducible show wpAny _ _ (subscriptTail _ (Expr.Slice _ _ none _) (Value.ref _) (Value.ref _)) _ _ _); (with_reducible rename Fr _ _ _ _ => F'); (with_reducible rename News _ _ _ _ => N'); (refine cut_baN (s := ⟨_, _, _, _, _⟩) F' N' (by k_mem) (by constructor) (by constructor) (by (first | assumption | exact Nat.le_trans (KBc.size_picked_le _ _ _) (by assumption))) ?_); intro _ _ _ _ _))
local macro_rules | `(tactic| walk_at "call builtin:len") => `(tactic| (k_here; (with_reducible show wpAny _ _ (call (Value.builtin "len") [Value.bytes (rdB _ _ _) _]) _ _ _); refine len_bytes (Nat.le_trans rdB_le (by omega)) ?_))
local macro_rules | `(tactic| walk_at "call builtin:_struct.unpack") => `(tactic| (k_here; k_dflt (refine' unpackBN ?F ?N ?hb ?_; (case F => k_asm); (case N => k_asm); (case hb => assumption); k_whole); intro _ _ _ _ F' N' l1; (try k_lt l1)))
local macro_rules | `(tactic| walk_at "call type:enumerate") => `(tactic| (k_here; (with_reducible show wpAny _ _ (call (Value.type _) [Value.bytes _ _]) _ _ _); k_dflt (refine' call_enumB rfl ?hk ?F ?N ?_; (case hk => assumption); (case F => k_asm); (case N => k_asm); k_whole); intro _ _ F' N' S'))
local macro_rules | `(tactic| walk_at "pyReprObj bytes") => `(tactic| (k_here; (refine repr_bytes (by first | assumption | exact Nat.le_trans rdB_le (by omega)) (by first | assumption | exact literal_le (by first | omega | exact Nat.le_trans rdB_le (by omega))) ?_)))
structure Stop (P : Prop) : Prop where
  h : P
theorem stop_here {P : Prop} (h : Stop P) : P := h.h
local macro_rules | `(tactic| walk_at "pyIter ref") => `(tactic| (k_here; refine stop_here ?_))
theorem map_two {M : Str → Option Value} {a b : Str} {v : Option Value} (h : M b = v) : M = fun y => if y = a then M a else if y = b then v else M y := by
  funext y
  by_cases ya : y = a
  · simp [ya]
  · by_cases yb : y = b
    · rw [if_neg ya, if_pos yb, yb, h]
    · rw [if_neg ya, if_neg yb]
theorem list_not_iter {v : Array Value} {c : Nat} : ¬ IterCls (PySem.W.listOf v c) := by
  rintro (h | h) <;> exact absurd (Value.type.inj h) (by decide)
theorem map_step {M : Str → Option Value} {a b : Str} {va vb u ub : Option Value} (hab : a ≠ b) : (fun y => if y = b then vb else if y = a then va else if y = a then u else if y = b then ub else M y) = fun y => if y = a then va else if y = b then vb else M y := by
  funext y
  by_cases yb : y = b
  · rw [if_pos yb, if_neg (fun e => hab (e.symm.trans yb)), if_pos yb]
  · rw [if_neg yb]
    by_cases ya : y = a
    · rw [if_pos ya, if_pos ya]
    · rw [if_neg ya, if_neg ya, if_neg yb, if_neg ya, if_neg yb]
theorem bits_take {l : List Int} {n : Nat} (h : ∀ x ∈ l, 0 ≤ x ∧ x ≤ 1) : ∀ x ∈ l.take n, 0 ≤ x ∧ x ≤ 1 := fun x hx => h x (List.mem_of_mem_take hx)
theorem bits_drop {l : List Int} {n : Nat} (h : ∀ x ∈ l, 0 ≤ x ∧ x ≤ 1) : ∀ x ∈ l.drop n, 0 ≤ x ∧ x ≤ 1 := fun x hx => h x (List.mem_of_mem_drop hx)
theorem bits_rev {l : List Int} (h : ∀ x ∈ l, 0 ≤ x ∧ x ≤ 1) : ∀ x ∈ l.reverse, 0 ≤ x ∧ x ≤ 1 := fun x hx => h x (List.mem_reverse.mp hx)
theorem flat_take {G : List Int} {i : Nat} {k : Int} {f : Int → List Int} (h : G[i]? = some k) : (G.take (i + 1)).flatMap f = (G.take i).flatMap f ++ f k := by
  rw [List.take_add_one, h]
  simp
theorem flat_bits {G ws : List Int} (hw : ∀ x ∈ ws, 0 ≤ x ∧ x ≤ 1) : ∀ x ∈ ws ++ G.flatMap digs, 0 ≤ x ∧ x ≤ 1 := fun x hx => by
  rcases List.mem_append.mp hx with h | h
  · exact hw x h
  · obtain ⟨o, _, h⟩ := List.mem_flatMap.mp h
    exact digs_bit h
theorem flat_bitsR {G ws : List Int} (hw : ∀ x ∈ ws, 0 ≤ x ∧ x ≤ 1) : ∀ x ∈ ws.reverse ++ G.flatMap (fun o => (digs o).reverse), 0 ≤ x ∧ x ≤ 1 := fun x hx => by
  rcases List.mem_append.mp hx with h | h
  · exact hw x (List.mem_reverse.mp h)
  · obtain ⟨o, _, h⟩ := List.mem_flatMap.mp h
    exact digs_bit (List.mem_reverse.mp h)
local macro_rules | `(tactic| walk_at "call ref") => `(tactic| (k_here; k_dflt (first
  | (refine' digits_spec ?B ?F ?X ?T ?hk ?hd ?hu ?h0 ?h1 ?N ?_; (case F => k_asm); (case X => k_asm); (case T => k_asm); (case B => k_asm); (case hk => (first | assumption | rfl)); (case N => k_asm); (case h0 => omega); (case h1 => omega); (case hd => (first | omega | ((try simp only [depth_deeper, units_deeper, depth_in1, units_in1]); (try dsimp only [ktrTop]); omega))); (case hu => (first | omega | ((try simp only [depth_deeper, units_deeper, depth_in1, units_in1]); (try dsimp only [ktrTop]); omega))); k_whole; intro _ _ _ _ _ F' N' I')
  | (refine' worth_spec ?B ?F ?X ?T ?hk ?hd ?hu ?hi ?hb ?hl ?N ?hm ?_; (case F => k_asm); (case X => k_asm); (case T => k_asm); (case B => k_asm); (case hk => (first | assumption | rfl)); (case N => k_asm); (case hm => k_mem); (case hi => assumption); (case hb => (first | assumption | exact bits_take (by assumption) | exact bits_rev (bits_take (by assumption)))); (case hl => (first | omega | ((simp only [List.length_take, List.length_reverse]); omega))); (case hd => (first | omega | ((try simp only [depth_deeper, units_deeper, depth_in1, units_in1]); (try dsimp only [ktrTop]); omega))); (case hu => (first | omega | ((try simp only [depth_deeper, units_deeper, depth_in1, units_in1]); (try dsimp only [ktrTop]); omega))); k_whole; intro _ _ _ F' N'))))
section
variable {w : World} {p : Program} {loose : List Str} {mean : ExcName → Option Value} {mg mb : Str → Option Value} {dp un : Nat} {gd : Option (List Code)} {cn : Str} {cs : Scope} {a : Addr} {ccd : Value} {cl : List (Str × Addr)} {outer : List Env} {A₀ : Around} {base h₀ : Heap} {L : Addr} {m : Str → Option Value} {s : Shared} {Q E : Value → Shared → Prop}
variable (B : Below A₀ base outer h₀) (F : Fr h₀ L s.heap m) (X : (K w.params).In h₀) (T : Top p loose mean mg mb h₀) (hk : cs.kind = .function)
include B F X T hk
theorem lb_hi {rl wl : Addr} {rvs wvs : List Value} {rs ws : List Int} {rc wc : Nat} {W : Int} {at_ many : Nat} {ta tw : Tok} {l : List (Addr × Obj)} (hd : dp + 58 < recursionLimit) (hu : un + 580 < cLine)
    (hri : IntsAre rvs rs) (hwi : IntsAre wvs ws) (hrb : ∀ n ∈ rs, 0 ≤ n ∧ n < 256) (hwb : ∀ n ∈ ws, 0 ≤ n ∧ n ≤ 1) (hrl : rs.length ≤ 100) (hwl : ws.length < 8) (hat : at_ ≤ 100) (hW0 : 0 ≤ W) (hW1 : W ≤ 18)
    (hmore : (ws.length : Int) < W) (hnk : (many : Int) = (W - ws.length + 7).fdiv 8) (hen : at_ + many ≤ rs.length)
    (N : News h₀ L s.heap l) (hm1 : (rl, PySem.W.listOf rvs.toArray rc) ∈ l) (hm2 : (wl, PySem.W.listOf wvs.toArray wc) ∈ l)
    (ret : ∀ h' tk D D2 (vs2 : List Value) c2 t1 t2, Fr h₀ L h' m → News h₀ L h' ((D, PySem.W.listOf #[.int (((ws ++ ((rs.drop at_).take many).flatMap digs).take W.toNat).foldl (fun a k => a * 2 + k) 0) t1, .int ((at_ : Int) + (W - ws.length + 7).fdiv 8) t2, .ref D2] 0) :: (D2, PySem.W.listOf vs2.toArray c2) :: l) → IntsAre vs2 ((ws ++ ((rs.drop at_).take many).flatMap digs).drop W.toNat) → Q (.ref D) { s with heap := h', toks := tk }) :
    wpAny (model prog w) (ktrTop dp un gd cn cs L a ccd cl outer) (call (.ref 1176) [.ref rl, .int (at_ : Int) ta, .ref wl, .int W tw, .bool false]) Q E s := by
  replace N := news_sub (r := (rl, PySem.W.listOf rvs.toArray rc) :: (wl, PySem.W.listOf wvs.toArray wc) :: l) N (sub_cons hm1 (sub_cons hm2 sub_self))
  refine wpAny_call ?_
  refine' code_def (binds := [(Str.ofString "row", Value.ref rl), (Str.ofString "at", Value.int (at_ : Int) ta), (Str.ofString "waiting", Value.ref wl), (Str.ofString "width", Value.int W tw), (Str.ofString "low", Value.bool false)]) ?k1 ?k2 ?k3 ?k4 ?k5 ?kA ?kF ?kK ?k6 ?k7 ?k8 ?k9 ?kB ?_ ?c2 ?c3 ?c4 ?c5
  case kA => exact rfl
  case kF => exact rfl
  case kK => assumption
  case k1 => k_asm
  case k2 => k_asm
  case k3 => k_asm
  case k4 => k_asm
  case k5 => k_asm
  case k6 => k_dflt k_is
  case k7 => k_dflt k_is
  case k8 => ktr_room
  case k9 => first | exact BindsTo.of_eq rfl | exact binds_K (by k_in) rfl (by k_is) rfl rfl rfl
  case c5 => decide
  case kB => exact locs rfl
  case c2 => exact rfl
  case c3 => exact rfl
  case c4 => exact rfl
  intro g' L' h' FG' F' N' B' X' T'
  (try dsimp only)
  k_fold
  k_steps
  refine Stop.mk ?_
  (rename IntsAre _ _ => hg)
  rw [show (min ((at_ : Int) + (W - (ws.length : Int) + 7).fdiv 8).toNat rs.length - ((at_ : Nat) : Int).toNat) = many by omega, show ((at_ : Nat) : Int).toNat = at_ by omega] at hg
  (rename News _ _ _ _ => NN)
  (rename Fr _ _ _ _ => FF)
  have hm3 : many ≤ 3 := by
    have z := hnk
    rw [Int.fdiv_eq_ediv_of_nonneg _ (by decide)] at z
    omega
  generalize hG : List.take many (List.drop at_ rs) = G at hg
  have hGl : G.length = many := by rw [← hG]; simp; omega
  have hGb : ∀ k ∈ G, 0 ≤ k ∧ k < 256 := fun k hk => hrb k (List.mem_of_mem_drop (List.mem_of_mem_take (hG ▸ hk)))
  refine' loop_list (m₀ := ?M) (fun i mm nx => ∃ la vs c u, mm = (fun y => if y = Str.ofString "octet" then u else if y = Str.ofString "line" then some (Value.ref la) else ?M y) ∧ ((la, PySem.W.listOf (List.toArray vs) c) ∈ nx ∧ ∀ p ∈ l, p ∈ nx) ∧ IntsAre vs (ws ++ (List.take i G).flatMap digs)) ?hh ?hl hg FF NN ?hj ?turn ?done
  case hh => rfl
  case hl => k_mem
  case hj => exact ⟨wl, wvs, wc, _, map_two rfl, ⟨by k_mem, by ((repeat refine sub_cons (by k_mem) ?_); (repeat first | exact sub_self | exact sub_nil | refine sub_up ?_))⟩, by simpa using hwi⟩
  case turn =>
    rintro i k t m₁ news₁ h9 tk9 own I hk hown hio hnI ⟨la, vs, c, u, rfl, ⟨hla, hsub⟩, hv⟩ F₁ N₁
    have hkb := hGb k (List.mem_of_getElem? hk)
    obtain ⟨hk0, hk1⟩ := hkb
    have hin : i < G.length := (List.getElem?_eq_some_iff.mp hk).1
    have hvl : (ws ++ (List.take i G).flatMap digs).length ≤ 100 := by rw [List.length_append, flat_len, List.length_take]; omega
    have hdl := digs_len k
    have N₂ := news_sub (r := (la, PySem.W.listOf vs.toArray c) :: (l ++ own)) N₁ (sub_cons (List.mem_append_left _ hla) fun p hp => (List.mem_append.mp hp).elim (fun h => List.mem_append_left _ (hsub p h)) fun h => List.mem_append_right _ h)
    clear NN N₁
    k_steps
    (rename News _ _ _ _ => N8)
    (rename Fr _ _ _ _ => F8)
    (rename IntsAre _ _ => I8)
    obtain ⟨oI, hoI, hic⟩ := hio
    unfold StepEnd
    dsimp only
    refine' ⟨_, _, _, (_, PySem.W.listOf (List.toArray _) _) :: l, rfl, F8, news_sub N8 ?s, ?ne, _, _, _, _, map_step (by decide), ⟨.head _, fun p hp => .tail _ hp⟩, ?i⟩
    case i => rw [flat_take hk, ← List.append_assoc]; exact I8
    case s =>
      refine sub_cons (by k_mem) fun p hp => ?_
      (repeat (refine List.Mem.tail _ ?_))
      exact hp
    case ne =>
      intro p hp
      rcases List.mem_cons.mp hp with e | hp
      · rw [e]
        refine ne_iter N8 (by k_mem) (b := I) (o2 := oI) ?_ list_not_iter hic
        (repeat (refine List.Mem.tail _ ?_))
        exact List.mem_append_right _ hoI
      · exact hnI p (hsub p hp)
  case done =>
    rintro m₁ news₁ h9 tk9 ⟨la, vs, c, u, rfl, ⟨hla, hsub⟩, hv⟩ F₁ N₁
    rw [List.take_length] at hv
    have hvl : (ws ++ G.flatMap digs).length ≤ 40 := by rw [List.length_append, flat_len]; omega
    have hlb : ∀ x ∈ ws ++ G.flatMap digs, 0 ≤ x ∧ x ≤ 1 := flat_bits hwb
    have N₂ := news_sub (r := (la, PySem.W.listOf vs.toArray c) :: l) N₁ (sub_cons hla hsub)
    clear NN N₁
    k_steps
    (rename IntsAre _ _ => I8)
    subst hG
    exact ret _ _ _ _ _ _ _ _ (by k_asm) (news_sub (by k_asm) (by ((repeat refine sub_cons (by k_mem) ?_); (repeat first | exact sub_self | exact sub_nil | refine sub_up ?_)))) I8
theorem lb_lo {rl wl : Addr} {rvs wvs : List Value} {rs ws : List Int} {rc wc : Nat} {W : Int} {at_ many : Nat} {ta tw : Tok} {l : List (Addr × Obj)} (hd : dp + 58 < recursionLimit) (hu : un + 580 < cLine)
    (hri : IntsAre rvs rs) (hwi : IntsAre wvs ws) (hrb : ∀ n ∈ rs, 0 ≤ n ∧ n < 256) (hwb : ∀ n ∈ ws, 0 ≤ n ∧ n ≤ 1) (hrl : rs.length ≤ 100) (hwl : ws.length < 8) (hat : at_ ≤ 100) (hW0 : 0 ≤ W) (hW1 : W ≤ 18)
    (hmore : (ws.length : Int) < W) (hnk : (many : Int) = (W - ws.length + 7).fdiv 8) (hen : at_ + many ≤ rs.length)
    (N : News h₀ L s.heap l) (hm1 : (rl, PySem.W.listOf rvs.toArray rc) ∈ l) (hm2 : (wl, PySem.W.listOf wvs.toArray wc) ∈ l)
    (ret : ∀ h' tk D D2 (vs2 : List Value) c2 t1 t2, Fr h₀ L h' m → News h₀ L h' ((D, PySem.W.listOf #[.int (((ws.reverse ++ ((rs.drop at_).take many).flatMap (fun o => (digs o).reverse)).take W.toNat).reverse.foldl (fun a k => a * 2 + k) 0) t1, .int ((at_ : Int) + (W - (ws.reverse.length : Int) + 7).fdiv 8) t2, .ref D2] 0) :: (D2, PySem.W.listOf vs2.toArray c2) :: l) → IntsAre vs2 ((ws.reverse ++ ((rs.drop at_).take many).flatMap (fun o => (digs o).reverse)).drop W.toNat).reverse → Q (.ref D) { s with heap := h', toks := tk }) :
    wpAny (model prog w) (ktrTop dp un gd cn cs L a ccd cl outer) (call (.ref 1176) [.ref rl, .int (at_ : Int) ta, .ref wl, .int W tw, .bool true]) Q E s := by
  replace N := news_sub (r := (rl, PySem.W.listOf rvs.toArray rc) :: (wl, PySem.W.listOf wvs.toArray wc) :: l) N (sub_cons hm1 (sub_cons hm2 sub_self))
  have hrl2 : ws.reverse.length = ws.length := List.length_reverse
  have hnk2 : (many : Int) = (W - (ws.reverse.length : Int) + 7).fdiv 8 := by rw [hrl2]; exact hnk
  have hmore2 : (ws.reverse.length : Int) < W := by rw [hrl2]; exact hmore
  refine wpAny_call ?_
  refine' code_def (binds := [(Str.ofString "row", Value.ref rl), (Str.ofString "at", Value.int (at_ : Int) ta), (Str.ofString "waiting", Value.ref wl), (Str.ofString "width", Value.int W tw), (Str.ofString "low", Value.bool true)]) ?k1 ?k2 ?k3 ?k4 ?k5 ?kA ?kF ?kK ?k6 ?k7 ?k8 ?k9 ?kB ?_ ?c2 ?c3 ?c4 ?c5
  case kA => exact rfl
  case kF => exact rfl
  case kK => assumption
  case k1 => k_asm
  case k2 => k_asm
  case k3 => k_asm
  case k4 => k_asm
  case k5 => k_asm
  case k6 => k_dflt k_is
  case k7 => k_dflt k_is
  case k8 => ktr_room
  case k9 => first | exact BindsTo.of_eq rfl | exact binds_K (by k_in) rfl (by k_is) rfl rfl rfl
  case c5 => decide
  case kB => exact locs rfl
  case c2 => exact rfl
  case c3 => exact rfl
  case c4 => exact rfl
  intro g' L' h' FG' F' N' B' X' T'
  (try dsimp only)
  k_fold
  k_steps
  refine Stop.mk ?_
  (rename IntsAre _ (List.reverse ws) => hw0)
  (rename IntsAre _ _ => hg)
  rw [show (min ((at_ : Int) + (W - (ws.reverse.length : Int) + 7).fdiv 8).toNat rs.length - ((at_ : Nat) : Int).toNat) = many by omega, show ((at_ : Nat) : Int).toNat = at_ by omega] at hg
  (rename News _ _ _ _ => NN)
  (rename Fr _ _ _ _ => FF)
  have hm3 : many ≤ 3 := by
    have z := hnk
    rw [Int.fdiv_eq_ediv_of_nonneg _ (by decide)] at z
    omega
  generalize hG : List.take many (List.drop at_ rs) = G at hg
  have hGl : G.length = many := by rw [← hG]; simp; omega
  have hGb : ∀ k ∈ G, 0 ≤ k ∧ k < 256 := fun k hk => hrb k (List.mem_of_mem_drop (List.mem_of_mem_take (hG ▸ hk)))
  refine' loop_list (m₀ := ?M) (fun i mm nx => ∃ la vs c u, mm = (fun y => if y = Str.ofString "octet" then u else if y = Str.ofString "line" then some (Value.ref la) else ?M y) ∧ ((la, PySem.W.listOf (List.toArray vs) c) ∈ nx ∧ ∀ p ∈ l, p ∈ nx) ∧ IntsAre vs (ws.reverse ++ (List.take i G).flatMap (fun o => (digs o).reverse))) ?hh ?hl hg FF NN ?hj ?turn ?done
  case hh => rfl
  case hl => k_mem
  case hj => exact ⟨_, _, _, _, map_two rfl, ⟨by k_mem, by ((repeat refine sub_cons (by k_mem) ?_); (repeat first | exact sub_self | exact sub_nil | refine sub_up ?_))⟩, by simpa using hw0⟩
  case turn =>
    rintro i k t m₁ news₁ h9 tk9 own I hk hown hio hnI ⟨la, vs, c, u, rfl, ⟨hla, hsub⟩, hv⟩ F₁ N₁
    have hkb := hGb k (List.mem_of_getElem? hk)
    obtain ⟨hk0, hk1⟩ := hkb
    have hin : i < G.length := (List.getElem?_eq_some_iff.mp hk).1
    have hvl : (ws.reverse ++ (List.take i G).flatMap (fun o => (digs o).reverse)).length ≤ 100 := by rw [List.length_append, List.length_reverse, flat_lenR, List.length_take]; omega
    have hdl := digs_len k
    have N₂ := news_sub (r := (la, PySem.W.listOf vs.toArray c) :: (l ++ own)) N₁ (sub_cons (List.mem_append_left _ hla) fun p hp => (List.mem_append.mp hp).elim (fun h => List.mem_append_left _ (hsub p h)) fun h => List.mem_append_right _ h)
    clear NN N₁
    k_steps
    (rename News _ _ _ _ => N8)
    (rename Fr _ _ _ _ => F8)
    (rename IntsAre _ _ => I8)
    obtain ⟨oI, hoI, hic⟩ := hio
    unfold StepEnd
    dsimp only
    refine' ⟨_, _, _, (_, PySem.W.listOf (List.toArray _) _) :: l, rfl, F8, news_sub N8 ?s, ?ne, _, _, _, _, map_step (by decide), ⟨.head _, fun p hp => .tail _ hp⟩, ?i⟩
    case i => rw [flat_take (f := fun o => (digs o).reverse) hk, ← List.append_assoc]; exact I8
    case s =>
      refine sub_cons (by k_mem) fun p hp => ?_
      (repeat (refine List.Mem.tail _ ?_))
      exact hp
    case ne =>
      intro p hp
      rcases List.mem_cons.mp hp with e | hp
      · rw [e]
        refine ne_iter N8 (by k_mem) (b := I) (o2 := oI) ?_ list_not_iter hic
        (repeat (refine List.Mem.tail _ ?_))
        exact List.mem_append_right _ hoI
      · exact hnI p (hsub p hp)
  case done =>
    rintro m₁ news₁ h9 tk9 ⟨la, vs, c, u, rfl, ⟨hla, hsub⟩, hv⟩ F₁ N₁
    rw [List.take_length] at hv
    have hvl : (ws.reverse ++ G.flatMap (fun o => (digs o).reverse)).length ≤ 40 := by rw [List.length_append, List.length_reverse, flat_lenR]; omega
    have hlb : ∀ x ∈ ws.reverse ++ G.flatMap (fun o => (digs o).reverse), 0 ≤ x ∧ x ≤ 1 := flat_bitsR hwb
    have N₂ := news_sub (r := (la, PySem.W.listOf vs.toArray c) :: l) N₁ (sub_cons hla hsub)
    clear NN N₁
    k_steps
    (rename IntsAre _ _ => I8)
    subst hG
    exact ret _ _ _ _ _ _ _ _ (by k_asm) (news_sub (by k_asm) (by ((repeat refine sub_cons (by k_mem) ?_); (repeat first | exact sub_self | exact sub_nil | refine sub_up ?_)))) I8
end
end Mine
end
section
open PySem PySem.W PySem.Calls PyProof.Rows PySem.Spec
set_option maxRecDepth 100000
set_option maxHeartbeats 8000000
namespace Mine
theorem resetLb2 {M : Model} {A : Around} {env : Env} {x : Str} {v : Value} {Q : Unit → Shared → Prop} {E : Value → Shared → Prop} {s : Shared} (h : wpAny M A (storeName env x v) Q E s) : wpAny M A (storeName env x v) Q E s := by
  w_top off
  k_with_none
  first
    | (walk1; fail)
    | exact h
local macro_rules | `(tactic| k_upd) => `(tactic| first | exact Pick.head | (refine' Pick.tail ?pp; (case pp => k_upd)))
local macro_rules | `(tactic| k_all) => `(tactic| assumption)
local macro_rules | `(tactic| k_room) => `(tactic| ktr_room)
local macro_rules | `(tactic| walk_at "call type:type") => `(tactic| refine call_type_of (PySem.W.typeIs_bytes _ _ _) (by decide +kernel) ?_)
local macro_rules | `(tactic| walk_at "call builtin:len") => `(tactic| (k_here; (with_reducible show wpAny _ _ (call (Value.builtin "len") [Value.ref _]) _ _ _); k_dflt (refine' len_baN ?N ?m ?z ?_; (case N => k_asm); (case m => k_mem); (case z => (first | assumption | exact Nat.le_trans (KBc.size_picked_le _ _ _) (by assumption))); k_whole); intro _ _))
local macro_rules | `(tactic| walk_at "call type:bytes") => `(tactic| (k_here; (with_reducible show wpAny _ _ (call (Value.type "bytes") [Value.ref _]) _ _ _); k_dflt (refine' bytes_baN ?N ?m ?z ?_; (case N => k_asm); (case m => k_mem); (case z => (first | assumption | exact Nat.le_trans (KBc.size_picked_le _ _ _) (by assumption))); k_whole); intro _ _))
local macro_rules | `(tactic| walk_at "subscriptTail") => `(tactic| (k_here; (with_reducible show wpAny _ _ (subscriptTail _ (Expr.Slice _ _ none _) (Value.ref _) (Value.ref _)) _ _ _); (with_reducible rename Fr _ _ _ _ => F'); (with_reducible rename News _ _ _ _ => N'); (refine cut_baN (s := ⟨_, _, _, _, _⟩) F' N' (by k_mem) (by constructor) (by constructor) (by (first | assumption | exact Nat.le_trans (KBc.size_picked_le _ _ _) (by assumption))) ?_); intro _ _ _ _ _))
local macro_rules | `(tactic| walk_at "call builtin:len") => `(tactic| (k_here; (with_reducible show wpAny _ _ (call (Value.builtin "len") [Value.bytes (rdB _ _ _) _]) _ _ _); refine len_bytes (Nat.le_trans rdB_le (by omega)) ?_))
local macro_rules | `(tactic| walk_at "call builtin:_struct.unpack") => `(tactic| (k_here; k_dflt (refine' unpackBN ?F ?N ?hb ?_; (case F => k_asm); (case N => k_asm); (case hb => assumption); k_whole); intro _ _ _ _ F' N' l1; (try k_lt l1)))
local macro_rules | `(tactic| walk_at "call type:enumerate") => `(tactic| (k_here; (with_reducible show wpAny _ _ (call (Value.type _) [Value.bytes _ _]) _ _ _); k_dflt (refine' call_enumB rfl ?hk ?F ?N ?_; (case hk => assumption); (case F => k_asm); (case N => k_asm); k_whole); intro _ _ F' N' S'))
local macro_rules | `(tactic| walk_at "pyReprObj bytes") => `(tactic| (k_here; (refine repr_bytes (by first | assumption | exact Nat.le_trans rdB_le (by omega)) (by first | assumption | exact literal_le (by first | omega | exact Nat.le_trans rdB_le (by omega))) ?_)))
local macro_rules | `(tactic| walk_at "pyIter ref") => `(tactic| (k_here; refine stop_here ?_))
local macro_rules | `(tactic| walk_at "call ref") => `(tactic| (k_here; k_dflt (first
  | (refine' digits_spec ?B ?F ?X ?T ?hk ?hd ?hu ?h0 ?h1 ?N ?_; (case F => k_asm); (case X => k_asm); (case T => k_asm); (case B => k_asm); (case hk => (first | assumption | rfl)); (case N => k_asm); (case h0 => omega); (case h1 => omega); (case hd => (first | omega | ((try simp only [depth_deeper, units_deeper, depth_in1, units_in1]); (try dsimp only [ktrTop]); omega))); (case hu => (first | omega | ((try simp only [depth_deeper, units_deeper, depth_in1, units_in1]); (try dsimp only [ktrTop]); omega))); k_whole; intro _ _ _ _ _ F' N' I')
  | (refine' worth_spec ?B ?F ?X ?T ?hk ?hd ?hu ?hi ?hb ?hl ?N ?hm ?_; (case F => k_asm); (case X => k_asm); (case T => k_asm); (case B => k_asm); (case hk => (first | assumption | rfl)); (case N => k_asm); (case hm => k_mem); (case hi => assumption); (case hb => (first | assumption | exact bits_take (by assumption) | exact bits_rev (bits_take (by assumption)))); (case hl => (first | omega | ((simp only [List.length_take, List.length_reverse]); omega))); (case hd => (first | omega | ((try simp only [depth_deeper, units_deeper, depth_in1, units_in1]); (try dsimp only [ktrTop]); omega))); (case hu => (first | omega | ((try simp only [depth_deeper, units_deeper, depth_in1, units_in1]); (try dsimp only [ktrTop]); omega))); k_whole; intro _ _ _ F' N'))))
section
variable {w : World} {p : Program} {loose : List Str} {mean : ExcName → Option Value} {mg mb : Str → Option Value} {dp un : Nat} {gd : Option (List Code)} {cn : Str} {cs : Scope} {a : Addr} {ccd : Value} {cl : List (Str × Addr)} {outer : List Env} {A₀ : Around} {base h₀ : Heap} {L : Addr} {m : Str → Option Value} {s : Shared} {Q E : Value → Shared → Prop}
variable (B : Below A₀ base outer h₀) (F : Fr h₀ L s.heap m) (X : (K w.params).In h₀) (T : Top p loose mean mg mb h₀) (hk : cs.kind = .function)
include B F X T hk
theorem lb_hi0 {rl wl : Addr} {rvs wvs : List Value} {rs ws : List Int} {rc wc : Nat} {W : Int} {at_ : Nat} {ta tw : Tok} {l : List (Addr × Obj)} (hd : dp + 58 < recursionLimit) (hu : un + 580 < cLine)
    (hri : IntsAre rvs rs) (hwi : IntsAre wvs ws) (hrb : ∀ n ∈ rs, 0 ≤ n ∧ n < 256) (hwb : ∀ n ∈ ws, 0 ≤ n ∧ n ≤ 1) (hrl : rs.length ≤ 100) (hwl : ws.length < 8) (hat : at_ ≤ 100) (hW0 : 0 ≤ W) (hW1 : W ≤ 18)
    (hless : W ≤ (ws.length : Int))
    (N : News h₀ L s.heap l) (hm1 : (rl, PySem.W.listOf rvs.toArray rc) ∈ l) (hm2 : (wl, PySem.W.listOf wvs.toArray wc) ∈ l)
    (ret : ∀ h' tk D D2 (vs2 : List Value) c2 t1 t2, Fr h₀ L h' m → News h₀ L h' ((D, PySem.W.listOf #[.int ((ws.take W.toNat).foldl (fun a k => a * 2 + k) 0) t1, .int ((at_ : Int) + 0) t2, .ref D2] 0) :: (D2, PySem.W.listOf vs2.toArray c2) :: l) → IntsAre vs2 (ws.drop W.toNat) → Q (.ref D) { s with heap := h', toks := tk }) :
    wpAny (model prog w) (ktrTop dp un gd cn cs L a ccd cl outer) (call (.ref 1176) [.ref rl, .int (at_ : Int) ta, .ref wl, .int W tw, .bool false]) Q E s := by
  replace N := news_sub (r := (rl, PySem.W.listOf rvs.toArray rc) :: (wl, PySem.W.listOf wvs.toArray wc) :: l) N (sub_cons hm1 (sub_cons hm2 sub_self))
  refine wpAny_call ?_
  refine' code_def (binds := [(Str.ofString "row", Value.ref rl), (Str.ofString "at", Value.int (at_ : Int) ta), (Str.ofString "waiting", Value.ref wl), (Str.ofString "width", Value.int W tw), (Str.ofString "low", Value.bool false)]) ?k1 ?k2 ?k3 ?k4 ?k5 ?kA ?kF ?kK ?k6 ?k7 ?k8 ?k9 ?kB ?_ ?c2 ?c3 ?c4 ?c5
  case kA => exact rfl
  case kF => exact rfl
  case kK => assumption
  case k1 => k_asm
  case k2 => k_asm
  case k3 => k_asm
  case k4 => k_asm
  case k5 => k_asm
  case k6 => k_dflt k_is
  case k7 => k_dflt k_is
  case k8 => ktr_room
  case k9 => first | exact BindsTo.of_eq rfl | exact binds_K (by k_in) rfl (by k_is) rfl rfl rfl
  case c5 => decide
  case kB => exact locs rfl
  case c2 => exact rfl
  case c3 => exact rfl
  case c4 => exact rfl
  intro g' L' h' FG' F' N' B' X' T'
  (try dsimp only)
  k_fold
  k_steps
  refine Stop.mk ?_
  (rename IntsAre _ _ => hg)
  rw [show (min ((at_ : Int) + 0).toNat rs.length - ((at_ : Nat) : Int).toNat) = 0 by omega, List.take_zero] at hg
  (rename News _ _ _ _ => NN)
  (rename Fr _ _ _ _ => FF)
  refine' loop_list (m₀ := ?M) (fun i mm nx => ∃ la vs c u, mm = (fun y => if y = Str.ofString "octet" then u else if y = Str.ofString "line" then some (Value.ref la) else ?M y) ∧ ((la, PySem.W.listOf (List.toArray vs) c) ∈ nx ∧ ∀ p ∈ l, p ∈ nx) ∧ IntsAre vs ws) ?hh ?hl hg FF NN ?hj ?turn ?done
  case hh => rfl
  case hl => k_mem
  case hj => exact ⟨_, _, _, _, map_two rfl, ⟨by k_mem, by ((repeat refine sub_cons (by k_mem) ?_); (repeat first | exact sub_self | exact sub_nil | refine sub_up ?_))⟩, by assumption⟩
  case turn =>
    rintro i k t m₁ news₁ h9 tk9 own I hk
    exact absurd hk (by simp)
  case done =>
    rintro m₁ news₁ h9 tk9 ⟨la, vs, c, u, rfl, ⟨hla, hsub⟩, hv⟩ F₁ N₁
    have hvl : (ws).length ≤ 40 := by omega
    have hlb : ∀ x ∈ ws, 0 ≤ x ∧ x ≤ 1 := hwb
    have N₂ := news_sub (r := (la, PySem.W.listOf vs.toArray c) :: l) N₁ (sub_cons hla hsub)
    clear NN N₁
    k_steps
    (rename IntsAre _ _ => I8)
    exact ret _ _ _ _ _ _ _ _ (by k_asm) (news_sub (by k_asm) (by ((repeat refine sub_cons (by k_mem) ?_); (repeat first | exact sub_self | exact sub_nil | refine sub_up ?_)))) I8
theorem lb_lo0 {rl wl : Addr} {rvs wvs : List Value} {rs ws : List Int} {rc wc : Nat} {W : Int} {at_ : Nat} {ta tw : Tok} {l : List (Addr × Obj)} (hd : dp + 58 < recursionLimit) (hu : un + 580 < cLine)
    (hri : IntsAre rvs rs) (hwi : IntsAre wvs ws) (hrb : ∀ n ∈ rs, 0 ≤ n ∧ n < 256) (hwb : ∀ n ∈ ws, 0 ≤ n ∧ n ≤ 1) (hrl : rs.length ≤ 100) (hwl : ws.length < 8) (hat : at_ ≤ 100) (hW0 : 0 ≤ W) (hW1 : W ≤ 18)
    (hless : W ≤ (ws.length : Int))
    (N : News h₀ L s.heap l) (hm1 : (rl, PySem.W.listOf rvs.toArray rc) ∈ l) (hm2 : (wl, PySem.W.listOf wvs.toArray wc) ∈ l)
    (ret : ∀ h' tk D D2 (vs2 : List Value) c2 t1 t2, Fr h₀ L h' m → News h₀ L h' ((D, PySem.W.listOf #[.int ((ws.reverse.take W.toNat).reverse.foldl (fun a k => a * 2 + k) 0) t1, .int ((at_ : Int) + 0) t2, .ref D2] 0) :: (D2, PySem.W.listOf vs2.toArray c2) :: l) → IntsAre vs2 (ws.reverse.drop W.toNat).reverse → Q (.ref D) { s with heap := h', toks := tk }) :
    wpAny (model prog w) (ktrTop dp un gd cn cs L a ccd cl outer) (call (.ref 1176) [.ref rl, .int (at_ : Int) ta, .ref wl, .int W tw, .bool true]) Q E s := by
  replace N := news_sub (r := (rl, PySem.W.listOf rvs.toArray rc) :: (wl, PySem.W.listOf wvs.toArray wc) :: l) N (sub_cons hm1 (sub_cons hm2 sub_self))
  have hrl2 : ws.reverse.length = ws.length := List.length_reverse
  have hless2 : W ≤ (ws.reverse.length : Int) := by rw [hrl2]; exact hless
  refine wpAny_call ?_
  refine' code_def (binds := [(Str.ofString "row", Value.ref rl), (Str.ofString "at", Value.int (at_ : Int) ta), (Str.ofString "waiting", Value.ref wl), (Str.ofString "width", Value.int W tw), (Str.ofString "low", Value.bool true)]) ?k1 ?k2 ?k3 ?k4 ?k5 ?kA ?kF ?kK ?k6 ?k7 ?k8 ?k9 ?kB ?_ ?c2 ?c3 ?c4 ?c5
  case kA => exact rfl
  case kF => exact rfl
  case kK => assumption
  case k1 => k_asm
  case k2 => k_asm
  case k3 => k_asm
  case k4 => k_asm
  case k5 => k_asm
  case k6 => k_dflt k_is
  case k7 => k_dflt k_is
  case k8 => ktr_room
  case k9 => first | exact BindsTo.of_eq rfl | exact binds_K (by k_in) rfl (by k_is) rfl rfl rfl
  case c5 => decide
  case kB => exact locs rfl
  case c2 => exact rfl
  case c3 => exact rfl
  case c4 => exact rfl
  intro g' L' h' FG' F' N' B' X' T'
  (try dsimp only)
  k_fold
  k_steps
  refine Stop.mk ?_
  (rename IntsAre _ _ => hg)
  rw [show (min ((at_ : Int) + 0).toNat rs.length - ((at_ : Nat) : Int).toNat) = 0 by omega, List.take_zero] at hg
  (rename News _ _ _ _ => NN)
  (rename Fr _ _ _ _ => FF)
  refine' loop_list (m₀ := ?M) (fun i mm nx => ∃ la vs c u, mm = (fun y => if y = Str.ofString "octet" then u else if y = Str.ofString "line" then some (Value.ref la) else ?M y) ∧ ((la, PySem.W.listOf (List.toArray vs) c) ∈ nx ∧ ∀ p ∈ l, p ∈ nx) ∧ IntsAre vs ws.reverse) ?hh ?hl hg FF NN ?hj ?turn ?done
  case hh => rfl
  case hl => k_mem
  case hj => exact ⟨_, _, _, _, map_two rfl, ⟨by k_mem, by ((repeat refine sub_cons (by k_mem) ?_); (repeat first | exact sub_self | exact sub_nil | refine sub_up ?_))⟩, by assumption⟩
  case turn =>
    rintro i k t m₁ news₁ h9 tk9 own I hk
    exact absurd hk (by simp)
  case done =>
    rintro m₁ news₁ h9 tk9 ⟨la, vs, c, u, rfl, ⟨hla, hsub⟩, hv⟩ F₁ N₁
    have hvl : (ws.reverse).length ≤ 40 := by omega
    have hlb : ∀ x ∈ ws.reverse, 0 ≤ x ∧ x ≤ 1 := bits_rev hwb
    have N₂ := news_sub (r := (la, PySem.W.listOf vs.toArray c) :: l) N₁ (sub_cons hla hsub)
    clear NN N₁
    k_steps
    (rename IntsAre _ _ => I8)
    exact ret _ _ _ _ _ _ _ _ (by k_asm) (news_sub (by k_asm) (by ((repeat refine sub_cons (by k_mem) ?_); (repeat first | exact sub_self | exact sub_nil | refine sub_up ?_)))) I8
theorem lb_hiS {rl wl : Addr} {rvs wvs : List Value} {rs ws : List Int} {rc wc : Nat} {W : Int} {at_ many : Nat} {ta tw : Tok} {l : List (Addr × Obj)} (hd : dp + 58 < recursionLimit) (hu : un + 580 < cLine)
    (hri : IntsAre rvs rs) (hwi : IntsAre wvs ws) (hrb : ∀ n ∈ rs, 0 ≤ n ∧ n < 256) (hwb : ∀ n ∈ ws, 0 ≤ n ∧ n ≤ 1) (hrl : rs.length ≤ 100) (hwl : ws.length < 8) (hat : at_ ≤ 100) (hW0 : 0 ≤ W) (hW1 : W ≤ 18)
    (hmore : (ws.length : Int) < W) (hnk : (many : Int) = (W - ws.length + 7).fdiv 8) (hsh : rs.length < at_ + many)
    (N : News h₀ L s.heap l) (hm1 : (rl, PySem.W.listOf rvs.toArray rc) ∈ l) (hm2 : (wl, PySem.W.listOf wvs.toArray wc) ∈ l)
    (ret : ∀ h' tk D t1 t2 t3 t4, Fr h₀ L h' m → News h₀ L h' ((D, PySem.W.listOf #[.str (Str.ofString "end") t1, .int ((W - (ws.length : Int) + 7).fdiv 8) t2, .int ((rs.length - at_ : Nat) : Int) t3, .str (shortTxt ((W - (ws.length : Int) + 7).fdiv 8) ((rs.length - at_ : Nat) : Int)) t4] 0) :: l) → Q (.ref D) { s with heap := h', toks := tk }) :
    wpAny (model prog w) (ktrTop dp un gd cn cs L a ccd cl outer) (call (.ref 1176) [.ref rl, .int (at_ : Int) ta, .ref wl, .int W tw, .bool false]) Q E s := by
  replace N := news_sub (r := (rl, PySem.W.listOf rvs.toArray rc) :: (wl, PySem.W.listOf wvs.toArray wc) :: l) N (sub_cons hm1 (sub_cons hm2 sub_self))
  have hm3 : many ≤ 3 := by
    have z := hnk
    rw [Int.fdiv_eq_ediv_of_nonneg _ (by decide)] at z
    omega
  refine wpAny_call ?_
  refine' code_def (binds := [(Str.ofString "row", Value.ref rl), (Str.ofString "at", Value.int (at_ : Int) ta), (Str.ofString "waiting", Value.ref wl), (Str.ofString "width", Value.int W tw), (Str.ofString "low", Value.bool false)]) ?k1 ?k2 ?k3 ?k4 ?k5 ?kA ?kF ?kK ?k6 ?k7 ?k8 ?k9 ?kB ?_ ?c2 ?c3 ?c4 ?c5
  case kA => exact rfl
  case kF => exact rfl
  case kK => assumption
  case k1 => k_asm
  case k2 => k_asm
  case k3 => k_asm
  case k4 => k_asm
  case k5 => k_asm
  case k6 => k_dflt k_is
  case k7 => k_dflt k_is
  case k8 => ktr_room
  case k9 => first | exact BindsTo.of_eq rfl | exact binds_K (by k_in) rfl (by k_is) rfl rfl rfl
  case c5 => decide
  case kB => exact locs rfl
  case c2 => exact rfl
  case c3 => exact rfl
  case c4 => exact rfl
  intro g' L' h' FG' F' N' B' X' T'
  (try dsimp only)
  k_fold
  k_steps
  have e9 : ((List.take (min ((at_ : Int) + (W - (ws.length : Int) + 7).fdiv 8).toNat rs.length - ((at_ : Nat) : Int).toNat) (List.drop ((at_ : Nat) : Int).toNat rs)).length : Int) = ((rs.length - at_ : Nat) : Int) := by rw [List.length_take, List.length_drop]; omega
  (rename News _ _ _ _ => N8)
  simp only [e9] at N8
  exact ret _ _ _ _ _ _ _ (by k_asm) (news_sub N8 (by ((repeat refine sub_cons (by k_mem) ?_); (repeat first | exact sub_self | exact sub_nil | refine sub_up ?_))))
theorem lb_loS {rl wl : Addr} {rvs wvs : List Value} {rs ws : List Int} {rc wc : Nat} {W : Int} {at_ many : Nat} {ta tw : Tok} {l : List (Addr × Obj)} (hd : dp + 58 < recursionLimit) (hu : un + 580 < cLine)
    (hri : IntsAre rvs rs) (hwi : IntsAre wvs ws) (hrb : ∀ n ∈ rs, 0 ≤ n ∧ n < 256) (hwb : ∀ n ∈ ws, 0 ≤ n ∧ n ≤ 1) (hrl : rs.length ≤ 100) (hwl : ws.length < 8) (hat : at_ ≤ 100) (hW0 : 0 ≤ W) (hW1 : W ≤ 18)
    (hmore : (ws.length : Int) < W) (hnk : (many : Int) = (W - ws.length + 7).fdiv 8) (hsh : rs.length < at_ + many)
    (N : News h₀ L s.heap l) (hm1 : (rl, PySem.W.listOf rvs.toArray rc) ∈ l) (hm2 : (wl, PySem.W.listOf wvs.toArray wc) ∈ l)
    (ret : ∀ h' tk D t1 t2 t3 t4, Fr h₀ L h' m → News h₀ L h' ((D, PySem.W.listOf #[.str (Str.ofString "end") t1, .int ((W - (ws.reverse.length : Int) + 7).fdiv 8) t2, .int ((rs.length - at_ : Nat) : Int) t3, .str (shortTxt ((W - (ws.reverse.length : Int) + 7).fdiv 8) ((rs.length - at_ : Nat) : Int)) t4] 0) :: l) → Q (.ref D) { s with heap := h', toks := tk }) :
    wpAny (model prog w) (ktrTop dp un gd cn cs L a ccd cl outer) (call (.ref 1176) [.ref rl, .int (at_ : Int) ta, .ref wl, .int W tw, .bool true]) Q E s := by
  replace N := news_sub (r := (rl, PySem.W.listOf rvs.toArray rc) :: (wl, PySem.W.listOf wvs.toArray wc) :: l) N (sub_cons hm1 (sub_cons hm2 sub_self))
  have hm3 : many ≤ 3 := by
    have z := hnk
    rw [Int.fdiv_eq_ediv_of_nonneg _ (by decide)] at z
    omega
  have hrl2 : ws.reverse.length = ws.length := List.length_reverse
  have hnk2 : (many : Int) = (W - (ws.reverse.length : Int) + 7).fdiv 8 := by rw [hrl2]; exact hnk
  have hmore2 : (ws.reverse.length : Int) < W := by rw [hrl2]; exact hmore
  refine wpAny_call ?_
  refine' code_def (binds := [(Str.ofString "row", Value.ref rl), (Str.ofString "at", Value.int (at_ : Int) ta), (Str.ofString "waiting", Value.ref wl), (Str.ofString "width", Value.int W tw), (Str.ofString "low", Value.bool true)]) ?k1 ?k2 ?k3 ?k4 ?k5 ?kA ?kF ?kK ?k6 ?k7 ?k8 ?k9 ?kB ?_ ?c2 ?c3 ?c4 ?c5
  case kA => exact rfl
  case kF => exact rfl
  case kK => assumption
  case k1 => k_asm
  case k2 => k_asm
  case k3 => k_asm
  case k4 => k_asm
  case k5 => k_asm
  case k6 => k_dflt k_is
  case k7 => k_dflt k_is
  case k8 => ktr_room
  case k9 => first | exact BindsTo.of_eq rfl | exact binds_K (by k_in) rfl (by k_is) rfl rfl rfl
  case c5 => decide
  case kB => exact locs rfl
  case c2 => exact rfl
  case c3 => exact rfl
  case c4 => exact rfl
  intro g' L' h' FG' F' N' B' X' T'
  (try dsimp only)
  k_fold
  k_steps
  have e9 : ((List.take (min ((at_ : Int) + (W - (ws.reverse.length : Int) + 7).fdiv 8).toNat rs.length - ((at_ : Nat) : Int).toNat) (List.drop ((at_ : Nat) : Int).toNat rs)).length : Int) = ((rs.length - at_ : Nat) : Int) := by rw [List.length_take, List.length_drop]; omega
  (rename News _ _ _ _ => N8)
  simp only [e9] at N8
  exact ret _ _ _ _ _ _ _ (by k_asm) (news_sub N8 (by ((repeat refine sub_cons (by k_mem) ?_); (repeat first | exact sub_self | exact sub_nil | refine sub_up ?_))))
end
end Mine
end
section
open PySem PySem.W PySem.Calls PyProof.Rows PySem.Spec
set_option maxRecDepth 100000
set_option maxHeartbeats 8000000
namespace Mine
theorem resetShown {M : Model} {A : Around} {env : Env} {x : Str} {v : Value} {Q : Unit → Shared → Prop} {E : Value → Shared → Prop} {s : Shared} (h : wpAny M A (storeName env x v) Q E s) : wpAny M A (storeName env x v) Q E s := by
  w_top off
  k_with_none
  first
    | (walk1; fail)
    | exact h
local macro_rules | `(tactic| k_upd) => `(tactic| first | exact Pick.head | (refine' Pick.tail ?pp; (case pp => k_upd)))
local macro_rules | `(tactic| k_all) => `(tactic| assumption)
local macro_rules | `(tactic| k_room) => `(tactic| ktr_room)
local macro_rules | `(tactic| walk_at "call type:type") => `(tactic| refine call_type_of (PySem.W.typeIs_bytes _ _ _) (by decide +kernel) ?_)
local macro_rules | `(tactic| walk_at "call builtin:len") => `(tactic| (k_here; (with_reducible show wpAny _ _ (call (Value.builtin "len") [Value.ref _]) _ _ _); k_dflt (refine' len_baN ?N ?m ?z ?_; (case N => k_asm); (case m => k_mem); (case z => (first | assumption | exact Nat.le_trans (KBc.size_picked_le _ _ _) (by assumption))); k_whole); intro _ _))
local macro_rules | `(tactic| walk_at "call type:bytes") => `(tactic| (k_here; (with_reducible show wpAny _ _ (call (Value.type "bytes") [Value.ref _]) _ _ _); k_dflt (refine' bytes_baN ?N ?m ?z ?_; (case N => k_asm); (case m => k_mem); (case z => (first | assumption | exact Nat.le_trans (KBc.size_picked_le _ _ _) (by assumption))); k_whole); intro _ _))
local macro_rules | `(tactic| walk_at "subscriptTail") => `(tactic| (k_here; (with_reducible show wpAny _ _ (subscriptTail _ (Expr.Slice _ _ none _) (Value.ref _) (Value.ref _)) _ _ _); (with_reducible rename Fr _ _ _ _ => F'); (with_reducible rename News _ _ _ _ => N'); (refine cut_baN (s := ⟨_, _, _, _, _⟩) F' N' (by k_mem) (by constructor) (by constructor) (by (first | assumption | exact Nat.le_trans (KBc.size_picked_le _ _ _) (by assumption))) ?_); intro _ _ _ _ _))
local macro_rules | `(tactic| walk_at "call builtin:len") => `(tactic| (k_here; (with_reducible show wpAny _ _ (call (Value.builtin "len") [Value.bytes (rdB _ _ _) _]) _ _ _); refine len_bytes (Nat.le_trans rdB_le (by omega)) ?_))
local macro_rules | `(tactic| walk_at "call builtin:_struct.unpack") => `(tactic| (k_here; k_dflt (refine' unpackBN ?F ?N ?hb ?_; (case F => k_asm); (case N => k_asm); (case hb => assumption); k_whole); intro _ _ _ _ F' N' l1; (try k_lt l1)))
local macro_rules | `(tactic| walk_at "call type:enumerate") => `(tactic| (k_here; (with_reducible show wpAny _ _ (call (Value.type _) [Value.bytes _ _]) _ _ _); k_dflt (refine' call_enumB rfl ?hk ?F ?N ?_; (case hk => assumption); (case F => k_asm); (case N => k_asm); k_whole); intro _ _ F' N' S'))
local macro_rules | `(tactic| walk_at "pyReprObj bytes") => `(tactic| (k_here; (refine repr_bytes (by first | assumption | exact Nat.le_trans rdB_le (by omega)) (by first | assumption | exact literal_le (by first | omega | exact Nat.le_trans rdB_le (by omega))) ?_)))
theorem fig_item {i : Int} (h0 : 0 ≤ i) (h1 : i < 16) : Txt.item (Str.ofString "0123456789abcdef") i = Str.mk #[hexN i] := by
  have h : i = 0 ∨ i = 1 ∨ i = 2 ∨ i = 3 ∨ i = 4 ∨ i = 5 ∨ i = 6 ∨ i = 7 ∨ i = 8 ∨ i = 9 ∨ i = 10 ∨ i = 11 ∨ i = 12 ∨ i = 13 ∨ i = 14 ∨ i = 15 := by omega
  rcases h with h | h | h | h | h | h | h | h | h | h | h | h | h | h | h | h <;> (subst h; decide +kernel)
theorem fig_len : (Str.ofString "0123456789abcdef").length = 16 := by decide +kernel
theorem item_hex {prog : Program} {w : World} {A : Around} {E : Value → Shared → Prop} {s : Shared} {value slice : Expr} {t : Tok} {Q : Value → Shared → Prop} {i : Int} {u : Tok} (h0 : 0 ≤ i) (h1 : i < 16)
    (h : Q (.str (Str.mk #[hexN i]) s.toks) { s with toks := s.toks + 1 })
    (hs : subscripted slice false (.str (Str.ofString "0123456789abcdef") t) (.int i u) = operate [.str (Str.ofString "0123456789abcdef") t, .int i u] (getItem (.str (Str.ofString "0123456789abcdef") t) (.int i u)) := by with_unfolding_all rfl)
    (ht : ∀ r, letTemporaryGo value (.str (Str.ofString "0123456789abcdef") t) r = pure () := by intro _; with_unfolding_all rfl) :
    wpAny (model prog w) A (subscriptTail value slice (.str (Str.ofString "0123456789abcdef") t) (.int i u)) Q E s :=
  item_str (fitsSsize_of (N := 9223372036854775808) (by omega) (by omega) (Int.le_refl _)) (by rw [fig_len]; omega) (by rw [fig_len]; omega) (fun _ => by rw [fig_item h0 h1]; exact h) hs ht
theorem step_turn {mk k : Int} {pre : List Int} {t t' z : Str} (h : t = pre.foldl (stepTxt mk) z) (hs : stepTxt mk t k = t') : t' = (pre ++ [k]).foldl (stepTxt mk) z := by
  rw [List.foldl_append, ← h, ← hs]; rfl
theorem len_mk1 {a : Nat} : (Str.mk #[a]).length = 1 := rfl
theorem len_bs : (Str.ofString "\\").length = 1 := by decide +kernel
theorem len_t : (Str.ofString "\\t").length = 2 := by decide +kernel
theorem len_n : (Str.ofString "\\n").length = 2 := by decide +kernel
theorem len_r : (Str.ofString "\\r").length = 2 := by decide +kernel
theorem len_x : (Str.ofString "\\x").length = 2 := by decide +kernel
theorem len_b : (Str.ofString "b").length = 1 := by decide +kernel
theorem len_turn {t u : Str} {pre : List Int} {k : Int} (h : t.length ≤ 4 * pre.length + 2) (hu : u.length ≤ t.length + 4) : u.length ≤ 4 * (pre ++ [k]).length + 2 := by
  rw [List.length_append]
  simp only [List.length_cons, List.length_nil]
  omega
local macro_rules | `(tactic| walk_at "subscriptTail Name BinOp str int") => `(tactic| (k_here; (with_reducible rename ∀ n ∈ _, 0 ≤ n ∧ n < 256 => hB9); (with_reducible rename (_ : Int) ∈ _ => hM9); (have hK9 := hB9 _ hM9); refine item_hex (by (try rw [Int.fdiv_eq_ediv_of_nonneg _ (by decide)]); (try rw [Int.fmod_eq_emod_of_nonneg _ (by decide)]); omega) (by (try rw [Int.fdiv_eq_ediv_of_nonneg _ (by decide)]); (try rw [Int.fmod_eq_emod_of_nonneg _ (by decide)]); omega) ?_))
def MarkIs (ns : List Int) (s : Shared) (v : Value) (s' : Shared) : Prop := ∃ t' k', v = .int (markOf ns) t' ∧ s' = { s with toks := k' }
theorem any_eq {ns : List Int} {k : Int} : (ns.any fun x => x == k) = true ↔ k ∈ ns := by
  rw [List.any_eq_true]
  constructor
  · rintro ⟨x, hx, he⟩; rw [← eq_of_beq he]; exact hx
  · exact fun h => ⟨k, h, beq_self_eq_true k⟩
theorem mark_39 {ns : List Int} {s : Shared} {t : Tok} {k : Nat} (h : ¬ (39 ∈ ns ∧ 34 ∉ ns)) : MarkIs ns s (.int 39 t) { s with toks := k } := ⟨t, k, by rw [markOf, if_neg h], rfl⟩
theorem mark_34 {ns : List Int} {s : Shared} {t : Tok} {k : Nat} (h : 39 ∈ ns ∧ 34 ∉ ns) : MarkIs ns s (.int 34 t) { s with toks := k } := ⟨t, k, by rw [markOf, if_pos h], rfl⟩
section
variable {w : World} {p : Program} {loose : List Str} {mean : ExcName → Option Value} {mg mb : Str → Option Value} {dp un : Nat} {gd : Option (List Code)} {cn : Str} {cs : Scope} {a : Addr} {ccd : Value} {cl : List (Str × Addr)} {outer : List Env} {A₀ : Around} {base h₀ : Heap} {L : Addr} {m : Str → Option Value} {s : Shared} {Q E : Value → Shared → Prop}
variable (B : Below A₀ base outer h₀) (F : Fr h₀ L s.heap m) (X : (K w.params).In h₀) (T : Top p loose mean mg mb h₀) (hk : cs.kind = .function)
include B F X T hk
theorem shown_spec {ol : Addr} {vs : List Value} {ns : List Int} {c : Nat} {l : List (Addr × Obj)} (hd : dp + 8 < recursionLimit) (hu : un + 80 < cLine) (hi : IntsAre vs ns) (hb : ∀ n ∈ ns, 0 ≤ n ∧ n < 256) (hl : ns.length ≤ 40)
    (N : News h₀ L s.heap l) (hm : (ol, PySem.W.listOf vs.toArray c) ∈ l)
    (ret : ∀ h' tk t', Fr h₀ L h' m → News h₀ L h' l → Q (.str (shownTxt ns) t') { s with heap := h', toks := tk }) :
    wpAny (model prog w) (ktrTop dp un gd cn cs L a ccd cl outer) (call (.ref 1150) [.ref ol]) Q E s := by
  replace N := news_sub (r := (ol, PySem.W.listOf vs.toArray c) :: l) N (sub_cons hm sub_self)
  refine wpAny_call ?_
  refine' code_def (binds := [(Str.ofString "octets", Value.ref ol)]) ?k1 ?k2 ?k3 ?k4 ?k5 ?kA ?kF ?kK ?k6 ?k7 ?k8 ?k9 ?kB ?_ ?c2 ?c3 ?c4 ?c5
  case kA => exact rfl
  case kF => exact rfl
  case kK => assumption
  case k1 => k_asm
  case k2 => k_asm
  case k3 => k_asm
  case k4 => k_asm
  case k5 => k_asm
  case k6 => k_dflt k_is
  case k7 => k_dflt k_is
  case k8 => ktr_room
  case k9 => first | exact BindsTo.of_eq rfl | exact binds_K (by k_in) rfl (by k_is) rfl rfl rfl
  case c5 => decide
  case kB => exact locs rfl
  case c2 => exact rfl
  case c3 => exact rfl
  case c4 => exact rfl
  intro g' L' h' FG' F' N' B' X' T'
  (try dsimp only)
  k_fold
  refine wpAny_execs_cons (wpAny_Assign_Name (wpAny_mono (Q := MarkIs ns { s with heap := h' }) (E := fun _ _ => False) ?ea ?eb ?ec))
  case ec => exact fun _ _ z => z.elim
  case ea =>
    k_steps
    · rename_i h1 h2; exact mark_39 fun h => h.2 (any_eq.mp h2)
    · rename_i h1 h2; exact mark_34 ⟨any_eq.mp h1, fun h => by rw [any_eq.mpr h] at h2; exact absurd h2 (by decide)⟩
    · rename_i h1; exact mark_39 fun h => by rw [any_eq.mpr h.1] at h1; exact absurd h1 (by decide)
  case eb =>
    rintro v s' ⟨t', k', rfl, rfl⟩
    have hmk : 34 ≤ markOf ns ∧ markOf ns ≤ 39 := by unfold markOf; split <;> omega
    generalize hmm : markOf ns = mk at hmk ⊢
    obtain ⟨hmk1, hmk2⟩ := hmk
    k_with "pyIter ref" => k_state (fun pre text => text = pre.foldl (stepTxt mk) (Str.ofString "b" ++ Str.mk #[mk.toNat]) ∧ text.length ≤ 4 * pre.length + 2) "text"
    k_with "state" => (first
      | exact ⟨rfl, by rw [Str.length_append, len_b, len_mk1]; omega⟩
      | exact ⟨step_turn (by assumption) (by unfold stepTxt; first | rw [if_pos (by omega)] | rw [if_neg (by omega), if_pos (by omega)] | rw [if_neg (by omega), if_neg (by omega), if_pos (by omega)] | rw [if_neg (by omega), if_neg (by omega), if_neg (by omega), if_pos (by omega)] | rw [if_neg (by omega), if_neg (by omega), if_neg (by omega), if_neg (by omega), if_pos (by omega)] | rw [if_neg (by omega), if_neg (by omega), if_neg (by omega), if_neg (by omega), if_neg (by omega)]), len_turn (by assumption) (by simp only [Str.length_append, len_mk1, len_bs, len_t, len_n, len_r, len_x]; omega)⟩)
    k_steps
    subst_vars
    exact ret _ _ _ (by assumption) (news_sub (by assumption) fun p hp => List.mem_cons_of_mem _ hp)
end
end Mine
end
section
open PySem PySem.W PySem.Calls PyProof.Rows PySem.Spec
set_option maxRecDepth 100000
set_option maxHeartbeats 8000000
namespace Mine
theorem resetApo {M : Model} {A : Around} {env : Env} {x : Str} {v : Value} {Q : Unit → Shared → Prop} {E : Value → Shared → Prop} {s : Shared} (h : wpAny M A (storeName env x v) Q E s) : wpAny M A (storeName env x v) Q E s := by
  w_top off
  k_with_none
  first
    | (walk1; fail)
    | exact h
theorem pow_upA {n m : Nat} (h : n ≤ m) : (2 : Int) ^ n ≤ 2 ^ m := by
  have : (2 : Nat) ^ n ≤ 2 ^ m := Nat.pow_le_pow_right (by decide) h
  exact_mod_cast this
theorem ne_obj {h₀ h : Heap} {L a b : Addr} {l : List (Addr × Obj)} {o1 o2 : Obj} (N : News h₀ L h l) (h1 : (a, o1) ∈ l) (h2 : (b, o2) ∈ l) (hc : o1 ≠ o2) : a ≠ b := by
  rintro rfl
  have e1 := (N _ h1).1
  have e2 := (N _ h2).1
  exact hc (Option.some.inj (e1.symm.trans e2))
def dcount (o : Obj) : Nat := match o.data with | .dict _ n => n | _ => 0
theorem apOf {h₀ h : Heap} {L y e d : Addr} {l rest : List (Addr × Obj)} {w : World} {σ : Sd} {β : Bd} {bl bits pos : Int} {u1 u2 t : Tok} {b : Array UInt8} (N : News h₀ L h l) (m1 : (y, instObj 1075 e) ∈ l) (m2 : (e, sdict w σ bl u1 bits u2) ∈ l) (m3 : (σ.io, instObj 350 d) ∈ l) (m4 : (d, bdict w β pos t) ∈ l) (m5 : (β.ba, baObj b) ∈ l)
    (hr : ∀ p ∈ rest, p ∈ l ∧ p.2.cls ≠ .type "dict") : Ap y e σ.io d β.ba rest := by
  have q1 : (Value.ref 1075 : Value) ≠ .type "dict" := by intro h; cases h
  have q2 : (Value.ref 350 : Value) ≠ .type "dict" := by intro h; cases h
  have q3 : (Value.type "bytearray" : Value) ≠ .type "dict" := fun h => absurd (Value.type.inj h) (by decide)
  refine ⟨ne_obj N m1 m2 fun h => q1 (congrArg Obj.cls h), ne_obj N m1 m4 fun h => q1 (congrArg Obj.cls h), ne_obj N m3 m2 fun h => q2 (congrArg Obj.cls h), ne_obj N m3 m4 fun h => q2 (congrArg Obj.cls h), ne_obj N m5 m2 fun h => q3 (congrArg Obj.cls h), ne_obj N m5 m4 fun h => q3 (congrArg Obj.cls h), ne_obj N m2 m4 fun h => absurd (show (8 : Nat) = 2 from congrArg dcount h) (by decide), fun p hp => ?_, fun p hp => ?_⟩
  · obtain ⟨h1, h2⟩ := hr p hp
    exact ne_obj N (o1 := p.2) h1 m2 fun h => h2 (congrArg Obj.cls h)
  · obtain ⟨h1, h2⟩ := hr p hp
    exact ne_obj N (o1 := p.2) h1 m4 fun h => h2 (congrArg Obj.cls h)
theorem list_nd {v : Array Value} {c : Nat} : (PySem.W.listOf v c).cls ≠ .type "dict" := fun h => absurd (Value.type.inj h) (by decide)
theorem byte_get {rs : List Int} {i : Nat} (hrb : ∀ n ∈ rs, 0 ≤ n ∧ n < 256) (hlt : i < rs.length) : (((byteArr rs)[i]'(by simpa [byteArr] using hlt)).toNat : Int) = rs.getD i 0 := by
  have hb := hrb rs[i] (List.getElem_mem hlt)
  simp only [byteArr, List.getElem_toArray, List.getElem_map]
  rw [List.getD_eq_getElem?_getD, List.getElem?_eq_getElem hlt, Option.getD_some]
  exact u8_val hb
theorem u1_val {rs : List Int} {i : Nat} (hrb : ∀ n ∈ rs, 0 ≤ n ∧ n < 256) (hlt : i < rs.length) : ((PySem.Builtin.Struct.natOf false ((rdB (byteArr rs) i 1).extract 0 1) : Nat) : Int) = rs.getD i 0 := by
  rw [← byte_get hrb hlt]
  have hl : i < (byteArr rs).size := by simpa [byteArr] using hlt
  have e : rdB (byteArr rs) i 1 = #[(byteArr rs)[i]] := by
    unfold rdB
    rw [List.drop_eq_getElem_cons (by simpa using hl)]
    simp
  rw [e]
  simp [PySem.Builtin.Struct.natOf, PySem.Builtin.Memoryview.littleEndian]
theorem at_next {i n : Nat} (h : i < n) : (if (if (i : Int) > (n : Int) then (i : Int) else (n : Int)) < (i : Int) + 1 then if (i : Int) > (n : Int) then (i : Int) else (n : Int) else (i : Int) + 1) = ((i + 1 : Nat) : Int) := by
  rw [if_neg (by omega : ¬ (i : Int) > (n : Int)), if_neg (by omega)]; rfl
theorem rdB_byteArr {rs : List Int} {i n : Nat} : rdB (byteArr rs) i n = byteArr ((rs.drop i).take n) := by
  simp [rdB, byteArr, List.map_drop, List.map_take]
theorem rd_ints {rs : List Int} {i n : Nat} (hrb : ∀ n ∈ rs, 0 ≤ n ∧ n < 256) : KBw.bInts (rdB (byteArr rs) i n) = (rs.drop i).take n := by
  rw [rdB_byteArr]
  have h : ∀ k ∈ (rs.drop i).take n, 0 ≤ k ∧ k < 256 := fun k hk => hrb k (List.mem_of_mem_drop (List.mem_of_mem_take hk))
  unfold KBw.bInts byteArr
  generalize (rs.drop i).take n = l at h
  simp only [List.map_map]
  induction l with
  | nil => rfl
  | cons x r ih =>
    rw [List.map_cons]
    congr 1
    · exact u8_val (h x (List.mem_cons_self ..))
    · exact ih fun k hk => h k (List.mem_cons_of_mem _ hk)
end Mine
end
section
open PySem PySem.W PySem.Calls PyProof.Rows PySem.Spec
set_option maxRecDepth 100000
set_option maxHeartbeats 8000000
namespace Mine
theorem resetTail {M : Model} {A : Around} {env : Env} {x : Str} {v : Value} {Q : Unit → Shared → Prop} {E : Value → Shared → Prop} {s : Shared} (h : wpAny M A (storeName env x v) Q E s) : wpAny M A (storeName env x v) Q E s := by
  w_top off
  k_with_none
  first
    | (walk1; fail)
    | exact h
local macro_rules | `(tactic| k_upd) => `(tactic| first | exact Pick.head | (refine' Pick.tail ?pp; (case pp => k_upd)))
local macro_rules | `(tactic| k_all) => `(tactic| assumption)
local macro_rules | `(tactic| k_room) => `(tactic| ktr_room)
local macro_rules | `(tactic| walk_at "call type:type") => `(tactic| refine call_type_of (PySem.W.typeIs_bytes _ _ _) (by decide +kernel) ?_)
local macro_rules | `(tactic| walk_at "call builtin:len") => `(tactic| (k_here; (with_reducible show wpAny _ _ (call (Value.builtin "len") [Value.ref _]) _ _ _); k_dflt (refine' len_baN ?N ?m ?z ?_; (case N => k_asm); (case m => k_mem); (case z => (first | assumption | exact Nat.le_trans (KBc.size_picked_le _ _ _) (by assumption))); k_whole); intro _ _))
local macro_rules | `(tactic| walk_at "call type:bytes") => `(tactic| (k_here; (with_reducible show wpAny _ _ (call (Value.type "bytes") [Value.ref _]) _ _ _); k_dflt (refine' bytes_baN ?N ?m ?z ?_; (case N => k_asm); (case m => k_mem); (case z => (first | assumption | exact Nat.le_trans (KBc.size_picked_le _ _ _) (by assumption))); k_whole); intro _ _))
local macro_rules | `(tactic| walk_at "subscriptTail") => `(tactic| (k_here; (with_reducible show wpAny _ _ (subscriptTail _ (Expr.Slice _ _ none _) (Value.ref _) (Value.ref _)) _ _ _); (with_reducible rename Fr _ _ _ _ => F'); (with_reducible rename News _ _ _ _ => N'); (refine cut_baN (s := ⟨_, _, _, _, _⟩) F' N' (by k_mem) (by constructor) (by constructor) (by (first | assumption | exact Nat.le_trans (KBc.size_picked_le _ _ _) (by assumption))) ?_); intro _ _ _ _ _))
local macro_rules | `(tactic| walk_at "call builtin:len") => `(tactic| (k_here; (with_reducible show wpAny _ _ (call (Value.builtin "len") [Value.bytes (rdB _ _ _) _]) _ _ _); refine len_bytes (Nat.le_trans rdB_le (by omega)) ?_))
local macro_rules | `(tactic| walk_at "call builtin:_struct.unpack") => `(tactic| (k_here; k_dflt (refine' unpackBN ?F ?N ?hb ?_; (case F => k_asm); (case N => k_asm); (case hb => assumption); k_whole); intro _ _ _ _ F' N' l1; (try k_lt l1)))
local macro_rules | `(tactic| walk_at "call type:enumerate") => `(tactic| (k_here; (with_reducible show wpAny _ _ (call (Value.type _) [Value.bytes _ _]) _ _ _); k_dflt (refine' call_enumB rfl ?hk ?F ?N ?_; (case hk => assumption); (case F => k_asm); (case N => k_asm); k_whole); intro _ _ F' N' S'))
local macro_rules | `(tactic| walk_at "pyReprObj bytes") => `(tactic| (k_here; (refine repr_bytes (by first | assumption | exact Nat.le_trans rdB_le (by omega)) (by first | assumption | exact literal_le (by first | omega | exact Nat.le_trans rdB_le (by omega))) ?_)))
local macro_rules | `(tactic| walk_at "call ref") => `(tactic| (k_here; k_dflt (first
  | ((with_reducible show wpAny _ _ (call (Value.ref 250) _) _ _ _); refine' tell_pk ?B ?F ?X ?T ?hk ?hd ?hu ?N ?P1 ?P2 ?_; (case F => k_asm); (case X => k_asm); (case T => k_asm); (case B => k_asm); (case hk => (first | assumption | rfl)); (case N => k_asm); (case hd => (first | omega | ((try simp only [depth_deeper, units_deeper, depth_in1, units_in1]); (try dsimp only [ktrTop]); omega))); (case hu => (first | omega | ((try simp only [depth_deeper, units_deeper, depth_in1, units_in1]); (try dsimp only [ktrTop]); omega))); (case P1 => k_upd); (case P2 => k_upd); k_whole; intro _ _ _ F' N')
  | ((with_reducible show wpAny _ _ (call (Value.ref 258) _) _ _ _); refine' end_pk ?B ?F ?X ?T ?hk ?hd ?hu ?hz ?N ?P1 ?P2 ?P3 ?n1 ?n2 ?n3 ?_; (case F => k_asm); (case X => k_asm); (case T => k_asm); (case B => k_asm); (case hk => (first | assumption | rfl)); (case N => k_asm); (case hd => (first | omega | ((try simp only [depth_deeper, units_deeper, depth_in1, units_in1]); (try dsimp only [ktrTop]); omega))); (case hu => (first | omega | ((try simp only [depth_deeper, units_deeper, depth_in1, units_in1]); (try dsimp only [ktrTop]); omega))); (case hz => assumption); (case P1 => k_upd); (case P2 => k_upd); (case P3 => k_upd); (case n1 => (first | assumption | k_ne)); (case n2 => (first | assumption | k_ne)); (case n3 => k_all); k_whole; intro _ _ _ _ F' N')
  | ((with_reducible show wpAny _ _ (call (Value.ref 258) _) _ _ _); refine' seek_pk ?B ?F ?X ?T ?hk ?hd ?hu ?h0 ?h1 ?N ?P1 ?P2 ?n1 ?n3 ?_; (case F => k_asm); (case X => k_asm); (case T => k_asm); (case B => k_asm); (case hk => (first | assumption | rfl)); (case N => k_asm); (case hd => (first | omega | ((try simp only [depth_deeper, units_deeper, depth_in1, units_in1]); (try dsimp only [ktrTop]); omega))); (case hu => (first | omega | ((try simp only [depth_deeper, units_deeper, depth_in1, units_in1]); (try dsimp only [ktrTop]); omega))); (case h0 => (first | omega | ((try simp only [depth_deeper, units_deeper, depth_in1, units_in1]); (try dsimp only [ktrTop]); omega))); (case h1 => (first | omega | ((try simp only [depth_deeper, units_deeper, depth_in1, units_in1]); (try dsimp only [ktrTop]); omega))); (case P1 => k_upd); (case P2 => k_upd); (case n1 => (first | assumption | k_ne)); (case n3 => k_all); k_whole; intro _ _ _ _ F' N')
  | ((with_reducible show wpAny _ _ (call (Value.ref 274) _) _ _ _); refine' read_pk ?B ?F ?X ?T ?hk ?hd ?hu ?h1 ?hp ?hz ?N ?P1 ?P2 ?P3 ?n1 ?n2 ?n3 ?_; (case F => k_asm); (case X => k_asm); (case T => k_asm); (case B => k_asm); (case hk => (first | assumption | rfl)); (case N => k_asm); (case hd => (first | omega | ((try simp only [depth_deeper, units_deeper, depth_in1, units_in1]); (try dsimp only [ktrTop]); omega))); (case hu => (first | omega | ((try simp only [depth_deeper, units_deeper, depth_in1, units_in1]); (try dsimp only [ktrTop]); omega))); (case h1 => (first | omega | ((try simp only [depth_deeper, units_deeper, depth_in1, units_in1]); (try dsimp only [ktrTop]); omega))); (case hp => (first | omega | ((try simp only [depth_deeper, units_deeper, depth_in1, units_in1]); (try dsimp only [ktrTop]); omega))); (case hz => assumption); (case P1 => k_upd); (case P2 => k_upd); (case P3 => k_upd); (case n1 => (first | assumption | k_ne)); (case n2 => (first | assumption | k_ne)); (case n3 => k_all); k_whole; intro _ _ _ _ F' N')
  | ((with_reducible show wpAny _ _ (call (Value.ref 274) _) _ _ _); refine' full_pk ?B ?F ?X ?T ?hk ?hd ?hu ?hp ?hz ?N ?P1 ?P2 ?P3 ?n1 ?n2 ?n3 ?_; (case F => k_asm); (case X => k_asm); (case T => k_asm); (case B => k_asm); (case hk => (first | assumption | rfl)); (case N => k_asm); (case hd => (first | omega | ((try simp only [depth_deeper, units_deeper, depth_in1, units_in1]); (try dsimp only [ktrTop]); omega))); (case hu => (first | omega | ((try simp only [depth_deeper, units_deeper, depth_in1, units_in1]); (try dsimp only [ktrTop]); omega))); (case hp => (first | omega | ((try simp only [depth_deeper, units_deeper, depth_in1, units_in1]); (try dsimp only [ktrTop]); omega))); (case hz => assumption); (case P1 => k_upd); (case P2 => k_upd); (case P3 => k_upd); (case n1 => (first | assumption | k_ne)); (case n2 => (first | assumption | k_ne)); (case n3 => k_all); k_whole; intro _ _ _ _ F' N'))))
def bodyOf : Stmt → List Stmt | .For _ _ b _ _ => b | _ => []
def loopTail : List Stmt := (bodyOf ((lawRec.body.drop 5).headD (.Pass default))).drop 3
def kindIf : Stmt := loopTail.headD (.Pass default)
def chkIf : Stmt := (loopTail.drop 1).headD (.Pass default)
structure JF (mm : Str → Option Value) (sl R y wl : Addr) (te : Tok) (rs ws : List Int) (wvs : List Value) (at_ : Nat) : Prop where
  m1 : ∃ t, mm (Str.ofString "at") = some (.int (at_ : Int) t)
  m2 : mm (Str.ofString "waiting") = some (.ref wl)
  m3 : mm (Str.ofString "row") = some (.ref R)
  m4 : mm (Str.ofString "stream") = some (.ref y)
  m5 : mm (Str.ofString "extent") = some (.int (rs.length : Nat) te)
  m6 : mm (Str.ofString "script") = some (.ref sl)
  wi : IntsAre wvs ws
  wb : ∀ n ∈ ws, 0 ≤ n ∧ n ≤ 1
  wn : ws.length < 8
  at1 : at_ ≤ rs.length + 1
def Mid (w : World) (h₀ : Heap) (L : Addr) (σ : Sd) (β : Bd) (y e d R sl : Addr) (te : Tok) (rs : List Int) (rvs : List Value) (rc : Nat) (own : List (Addr × Obj)) (s : Shared) (f : Flow) (s' : Shared) : Prop :=
  f = .next ∧ ∃ h' tk m' v1 v2 t2 ws' wvs' wc' wl' at', s' = { s with heap := h', toks := tk } ∧ Fr h₀ L h' m' ∧ JF m' sl R y wl' te rs ws' wvs' at' ∧ News h₀ L h' ((wl', PySem.W.listOf wvs'.toArray wc') :: (y, instObj 1075 e) :: (e, sdict w σ (ws'.length : Nat) v1 (wo ws') v2) :: (σ.io, instObj 350 d) :: (d, bdict w β (at' : Int) t2) :: (β.ba, baObj (byteArr rs)) :: (R, PySem.W.listOf rvs.toArray rc) :: own)
theorem jf_map {mm : Str → Option Value} {sl R y wl : Addr} {te : Tok} {rs ws : List Int} {wvs : List Value} {at_ : Nat} (J : JF mm sl R y wl te rs ws wvs at_) :
    ∃ ta, mm = (fun z => if z = Str.ofString "at" then some (.int (at_ : Int) ta) else if z = Str.ofString "waiting" then some (.ref wl) else if z = Str.ofString "row" then some (.ref R) else if z = Str.ofString "stream" then some (.ref y) else if z = Str.ofString "extent" then some (.int (rs.length : Nat) te)
      else if z = Str.ofString "script" then some (.ref sl) else mm z) := by
  obtain ⟨⟨t, h1⟩, h2, h3, h4, h5, h6, _, _, _, _⟩ := J
  refine ⟨t, funext fun z => ?_⟩
  by_cases z1 : z = Str.ofString "at"
  · rw [if_pos z1, z1, h1]
  rw [if_neg z1]
  by_cases z1 : z = Str.ofString "waiting"
  · rw [if_pos z1, z1, h2]
  rw [if_neg z1]
  by_cases z1 : z = Str.ofString "row"
  · rw [if_pos z1, z1, h3]
  rw [if_neg z1]
  by_cases z1 : z = Str.ofString "stream"
  · rw [if_pos z1, z1, h4]
  rw [if_neg z1]
  by_cases z1 : z = Str.ofString "extent"
  · rw [if_pos z1, z1, h5]
  rw [if_neg z1]
  by_cases z1 : z = Str.ofString "script"
  · rw [if_pos z1, z1, h6]
  rw [if_neg z1]
section
variable {w : World} {p : Program} {loose : List Str} {mean : ExcName → Option Value} {mg mb : Str → Option Value} {dp un : Nat} {gd : Option (List Code)} {cn : Str} {cs : Scope} {a : Addr} {ccd : Value} {cl : List (Str × Addr)} {outer : List Env} {A₀ : Around} {base h₀ : Heap} {L : Addr} {m : Str → Option Value} {s : Shared} {Q E : Value → Shared → Prop}
variable (B : Below A₀ base outer h₀) (F : Fr h₀ L s.heap m) (X : (K w.params).In h₀) (T : Top p loose mean mg mb h₀) (hk : cs.kind = .function)
include B F X T hk
theorem sseekI {σ : Sd} {β : Bd} {y e d : Addr} {b : Array UInt8} {rest : List (Addr × Obj)} {bl bits v : Int} {u1 u2 t tn : Tok} {pos : Int} (hd : dp + 18 < recursionLimit) (hu : un + 180 < cLine) (h0 : 0 ≤ v) (h1 : v ≤ 1000000000)
    {l l1 l2 l3 l4 : List (Addr × Obj)} (N0 : News h₀ L s.heap l) (P1 : Pick (y, instObj 1075 e) l l1) (P2 : Pick (e, sdict w σ (bl) u1 (bits) u2) l1 l2) (P3 : Pick (σ.io, instObj 350 d) l2 l3) (P4 : Pick (d, bdict w β (pos) t) l3 l4) (P5 : Pick (β.ba, baObj b) l4 rest) (ap : Ap y e σ.io d β.ba rest)
    (ret : ∀ h' tk t1 t2 t3, Fr h₀ L h' m → News h₀ L h' ((y, instObj 1075 e) :: (e, sdict w σ (0) t1 (0) t2) :: (σ.io, instObj 350 d) :: (d, bdict w β (v) t3) :: (β.ba, baObj b) :: rest) → Q .none { s with heap := h', toks := tk }) :
    wpAny (model prog w) (ktrTop dp un gd cn cs L a ccd cl outer) (call (.ref 682) [.ref y, .int v tn]) Q E s := by
  obtain ⟨n, rfl⟩ := Int.eq_ofNat_of_zero_le h0
  exact sseek_spec B F X T hk hd hu (by omega) N0 P1 P2 P3 P4 P5 ap ret
theorem eofI {σ : Sd} {β : Bd} {y e d : Addr} {b : Array UInt8} {rest : List (Addr × Obj)} {bl bits pos : Int} {u1 u2 t : Tok} (hd : dp + 18 < recursionLimit) (hu : un + 180 < cLine) (h0 : 0 ≤ pos) (hp : pos ≤ 1000000000) (hz : b.size ≤ 16777216)
    {l l1 l2 l3 l4 : List (Addr × Obj)} (N0 : News h₀ L s.heap l) (P1 : Pick (y, instObj 1075 e) l l1) (P2 : Pick (e, sdict w σ (bl) u1 (bits) u2) l1 l2) (P3 : Pick (σ.io, instObj 350 d) l2 l3) (P4 : Pick (d, bdict w β (pos) t) l3 l4) (P5 : Pick (β.ba, baObj b) l4 rest) (ap : Ap y e σ.io d β.ba rest)
    (ret : ∀ h' tk t1, Fr h₀ L h' m → News h₀ L h' ((y, instObj 1075 e) :: (e, sdict w σ (bl) u1 (bits) u2) :: (σ.io, instObj 350 d) :: (d, bdict w β (pos) t1) :: (β.ba, baObj b) :: rest) → Q (.bool (decide (bl ≤ 0) && decide ((b.size : Int) ≤ pos))) { s with heap := h', toks := tk }) :
    wpAny (model prog w) (ktrTop dp un gd cn cs L a ccd cl outer) (call (.ref 675) [.ref y]) Q E s := by
  obtain ⟨n, rfl⟩ := Int.eq_ofNat_of_zero_le h0
  refine eof_spec B F X T hk hd hu (by omega) hz N0 P1 P2 P3 P4 P5 ap ?_
  rw [show decide (b.size ≤ n) = decide ((b.size : Int) ≤ (n : Int)) by simp]
  exact ret
end
section
variable {w : World} {p : Program} {loose : List Str} {mean : ExcName → Option Value} {mg mb : Str → Option Value} {dp un : Nat} {gd : Option (List Code)} {a : Addr} {ccd : Value} {A₀ : Around} {base h₀ : Heap} {L : Addr} {s : Shared} {Qf : Flow → Shared → Prop} {Ef : Value → Shared → Prop}
local macro_rules | `(tactic| walk_at "call ref") => `(tactic| (k_here; k_dflt (first
  | ((with_reducible show wpAny _ _ (call (Value.ref 682) _) _ _ _); refine' sseekI ?B ?F ?X ?T ?hk ?hd ?hu ?h0 ?h1 ?N0 ?P1 ?P2 ?P3 ?P4 ?P5 ?ap ?_; (case F => k_asm); (case X => k_asm); (case T => k_asm); (case B => k_asm); (case hk => (first | assumption | rfl)); (case N0 => k_asm); (case P1 => k_upd); (case P2 => k_upd); (case P3 => k_upd); (case P4 => k_upd); (case P5 => k_upd); (case ap => (exact Ap.mk (by (first | assumption | k_ne)) (by (first | assumption | k_ne)) (by (first | assumption | k_ne)) (by (first | assumption | k_ne)) (by (first | assumption | k_ne)) (by (first | assumption | k_ne)) (by (first | assumption | k_ne)) (by k_all) (by k_all))); (case hd => (first | omega | ((try simp only [depth_deeper, units_deeper, depth_in1, units_in1]); (try dsimp only [ktrTop]); omega))); (case hu => (first | omega | ((try simp only [depth_deeper, units_deeper, depth_in1, units_in1]); (try dsimp only [ktrTop]); omega))); (case h0 => (first | omega | ((try simp only [depth_deeper, units_deeper, depth_in1, units_in1]); (try dsimp only [ktrTop]); omega))); (case h1 => (first | omega | ((try simp only [depth_deeper, units_deeper, depth_in1, units_in1]); (try dsimp only [ktrTop]); omega))); k_whole; intro _ _ _ _ _ F' N')
  | ((with_reducible show wpAny _ _ (call (Value.ref 689) _) _ _ _); refine' pos_spec ?B ?F ?X ?T ?hk ?hd ?hu ?N0 ?P1 ?P2 ?P3 ?P4 ?P5 ?ap ?_; (case F => k_asm); (case X => k_asm); (case T => k_asm); (case B => k_asm); (case hk => (first | assumption | rfl)); (case N0 => k_asm); (case P1 => k_upd); (case P2 => k_upd); (case P3 => k_upd); (case P4 => k_upd); (case P5 => k_upd); (case ap => (exact Ap.mk (by (first | assumption | k_ne)) (by (first | assumption | k_ne)) (by (first | assumption | k_ne)) (by (first | assumption | k_ne)) (by (first | assumption | k_ne)) (by (first | assumption | k_ne)) (by (first | assumption | k_ne)) (by k_all) (by k_all))); (case hd => (first | omega | ((try simp only [depth_deeper, units_deeper, depth_in1, units_in1]); (try dsimp only [ktrTop]); omega))); (case hu => (first | omega | ((try simp only [depth_deeper, units_deeper, depth_in1, units_in1]); (try dsimp only [ktrTop]); omega))); k_whole; intro _ _ _ F' N')
  | ((with_reducible show wpAny _ _ (call (Value.ref 675) _) _ _ _); refine' eofI ?B ?F ?X ?T ?hk ?hd ?hu ?h0 ?hp ?hz ?N0 ?P1 ?P2 ?P3 ?P4 ?P5 ?ap ?_; (case F => k_asm); (case X => k_asm); (case T => k_asm); (case B => k_asm); (case hk => (first | assumption | rfl)); (case N0 => k_asm); (case P1 => k_upd); (case P2 => k_upd); (case P3 => k_upd); (case P4 => k_upd); (case P5 => k_upd); (case ap => (exact Ap.mk (by (first | assumption | k_ne)) (by (first | assumption | k_ne)) (by (first | assumption | k_ne)) (by (first | assumption | k_ne)) (by (first | assumption | k_ne)) (by (first | assumption | k_ne)) (by (first | assumption | k_ne)) (by k_all) (by k_all))); (case hd => (first | omega | ((try simp only [depth_deeper, units_deeper, depth_in1, units_in1]); (try dsimp only [ktrTop]); omega))); (case hu => (first | omega | ((try simp only [depth_deeper, units_deeper, depth_in1, units_in1]); (try dsimp only [ktrTop]); omega))); (case h0 => (first | omega | ((try simp only [depth_deeper, units_deeper, depth_in1, units_in1]); (try dsimp only [ktrTop]); omega))); (case hp => (first | omega | ((try simp only [depth_deeper, units_deeper, depth_in1, units_in1]); (try dsimp only [ktrTop]); omega))); (case hz => assumption); k_whole; intro _ _ _ F' N'))))
theorem tail_ok {σ : Sd} {β : Bd} {y e d R wl sl : Addr} {u1 u2 t te ta : Tok} {rs ws : List Int} {rvs wvs : List Value} {wc rc at_ : Nat} {own : List (Addr × Obj)} {mm : Str → Option Value}
    (hd : dp ≤ 310) (hu : un ≤ 100) (B : Below A₀ base [] h₀) (KX : (K w.params).In h₀) (T : Top p loose mean mg mb h₀)
    (F : Fr h₀ L s.heap (fun z => if z = Str.ofString "at" then some (.int (at_ : Int) ta) else if z = Str.ofString "waiting" then some (.ref wl) else if z = Str.ofString "row" then some (.ref R) else if z = Str.ofString "stream" then some (.ref y) else if z = Str.ofString "extent" then some (.int (rs.length : Nat) te)
      else if z = Str.ofString "script" then some (.ref sl) else mm z))
    (N : News h₀ L s.heap ((y, instObj 1075 e) :: (e, sdict w σ (ws.length : Nat) u1 (wo ws) u2) :: (σ.io, instObj 350 d) :: (d, bdict w β (at_ : Int) t) :: (β.ba, baObj (byteArr rs)) :: (R, PySem.W.listOf rvs.toArray rc) :: (wl, PySem.W.listOf wvs.toArray wc) :: own))
    (hown : ∀ p ∈ own, p.2.cls ≠ .type "dict")
    (hrl : rs.length ≤ 14) (hrl2 : 2 ≤ rs.length) (hwi : IntsAre wvs ws) (hwb : ∀ n ∈ ws, 0 ≤ n ∧ n ≤ 1) (hwn : ws.length < 8) (hat : at_ ≤ rs.length + 1) :
    wpAny (model prog w) (ktrTop dp un gd lawRec.name lawRec.scope L a ccd [] []) (exec chkIf (envX lawRec.name lawRec.scope L a ccd [])) (Mid w h₀ L σ β y e d R sl te rs rvs rc own s) Ef s := by
  have ap : Ap y e σ.io d β.ba ((R, PySem.W.listOf rvs.toArray rc) :: (wl, PySem.W.listOf wvs.toArray wc) :: own) := by
    refine apOf N (by k_mem) (by k_mem) (by k_mem) (by k_mem) (by k_mem) ?_
    refine List.forall_mem_cons.mpr ⟨⟨by k_mem, list_nd⟩, ?_⟩
    refine List.forall_mem_cons.mpr ⟨⟨by k_mem, list_nd⟩, ?_⟩
    exact fun p hp => ⟨.tail _ (.tail _ (.tail _ (.tail _ (.tail _ (.tail _ (.tail _ hp)))))), hown p hp⟩
  obtain ⟨ap1, ap2, ap3, ap4, ap5, ap6, ap7, ap8, ap9⟩ := ap
  have ao8 : ∀ p ∈ own, p.1 ≠ e := fun p hp => ap8 p (.tail _ (.tail _ hp))
  have ao9 : ∀ p ∈ own, p.1 ≠ d := fun p hp => ap9 p (.tail _ (.tail _ hp))
  have ar8 := ap8 _ (.head _)
  have ar9 := ap9 _ (.head _)
  have aw8 := ap8 _ (.tail _ (.head _))
  have aw9 := ap9 _ (.tail _ (.head _))
  clear ap8 ap9
  dsimp only at ar8 ar9 aw8 aw9
  replace ap1 := neN ap1
  replace ap2 := neN ap2
  replace ap3 := neN ap3
  replace ap4 := neN ap4
  replace ap5 := neN ap5
  replace ap6 := neN ap6
  replace ap7 := neN ap7
  replace ar8 := neN ar8
  replace ar9 := neN ar9
  replace aw8 := neN aw8
  replace aw9 := neN aw9
  have hdr : dp + 400 < recursionLimit := Nat.lt_of_le_of_lt (Nat.add_le_add_right hd 400) (by decide)
  have hur : un + 4000 < cLine := Nat.lt_of_le_of_lt (Nat.add_le_add_right hu 4000) (by decide)
  have hbs : (byteArr rs).size = rs.length := by simp [byteArr]
  have hbz : (byteArr rs).size ≤ 16777216 := by omega
  unfold chkIf loopTail bodyOf
  show wpAny _ _ (exec (Stmt.If _ _ _ _) _) _ _ _
  have hwz : decide (((ws.length : Nat) : Int) ≤ 0) = decide (ws = []) := by
    rw [Bool.eq_iff_iff, decide_eq_true_iff, decide_eq_true_iff]
    constructor
    · intro h; exact List.eq_nil_of_length_eq_zero (by omega)
    · intro h; rw [h]; decide
  have hbe : decide ((((byteArr rs).size : Nat) : Int) ≤ (at_ : Int)) = decide (((rs.length : Nat) : Int) ≤ (at_ : Int)) := by rw [hbs]
  k_steps
  · exact absurd rfl (by assumption)
  · exfalso
    rename (_ != _) = true => hq
    rename decide (ws = []) = true => h1
    rw [hwz, hbe, h1, Bool.true_and, bne_self_eq_false] at hq
    exact absurd hq (by decide)
  · (rename Fr _ _ _ _ => F9)
    (rename News _ _ _ _ => N9)
    exact ⟨rfl, _, _, _, _, _, _, _, _, _, _, _, rfl, F9, ⟨⟨_, rfl⟩, rfl, rfl, rfl, rfl, rfl, hwi, hwb, hwn, hat⟩, news_sub N9 (by ((repeat refine sub_cons (by k_mem) ?_); (repeat first | exact sub_self | exact sub_nil | refine sub_up ?_)))⟩
  · exfalso
    rename (_ != _) = true => hq
    rename decide (ws = []) = false => h1
    rw [hwz, h1, Bool.false_and, bne_self_eq_false] at hq
    exact absurd hq (by decide)
  · (rename Fr _ _ _ _ => F9)
    (rename News _ _ _ _ => N9)
    exact ⟨rfl, _, _, _, _, _, _, _, _, _, _, _, rfl, F9, ⟨⟨_, rfl⟩, rfl, rfl, rfl, rfl, rfl, hwi, hwb, hwn, hat⟩, news_sub N9 (by ((repeat refine sub_cons (by k_mem) ?_); (repeat first | exact sub_self | exact sub_nil | refine sub_up ?_)))⟩
end
end Mine
end
section
open PySem PySem.W PySem.Calls PyProof.Rows PySem.Spec
set_option maxRecDepth 100000
set_option maxHeartbeats 8000000
namespace Mine
theorem resetDhi {M : Model} {A : Around} {env : Env} {x : Str} {v : Value} {Q : Unit → Shared → Prop} {E : Value → Shared → Prop} {s : Shared} (h : wpAny M A (storeName env x v) Q E s) : wpAny M A (storeName env x v) Q E s := by
  w_top off
  k_with_none
  first
    | (walk1; fail)
    | exact h
local macro_rules | `(tactic| k_upd) => `(tactic| first | exact Pick.head | (refine' Pick.tail ?pp; (case pp => k_upd)))
local macro_rules | `(tactic| k_all) => `(tactic| assumption)
local macro_rules | `(tactic| k_room) => `(tactic| ktr_room)
local macro_rules | `(tactic| walk_at "call type:type") => `(tactic| refine call_type_of (PySem.W.typeIs_bytes _ _ _) (by decide +kernel) ?_)
local macro_rules | `(tactic| walk_at "call builtin:len") => `(tactic| (k_here; (with_reducible show wpAny _ _ (call (Value.builtin "len") [Value.ref _]) _ _ _); k_dflt (refine' len_baN ?N ?m ?z ?_; (case N => k_asm); (case m => k_mem); (case z => (first | assumption | exact Nat.le_trans (KBc.size_picked_le _ _ _) (by assumption))); k_whole); intro _ _))
local macro_rules | `(tactic| walk_at "call type:bytes") => `(tactic| (k_here; (with_reducible show wpAny _ _ (call (Value.type "bytes") [Value.ref _]) _ _ _); k_dflt (refine' bytes_baN ?N ?m ?z ?_; (case N => k_asm); (case m => k_mem); (case z => (first | assumption | exact Nat.le_trans (KBc.size_picked_le _ _ _) (by assumption))); k_whole); intro _ _))
local macro_rules | `(tactic| walk_at "subscriptTail") => `(tactic| (k_here; (with_reducible show wpAny _ _ (subscriptTail _ (Expr.Slice _ _ none _) (Value.ref _) (Value.ref _)) _ _ _); (with_reducible rename Fr _ _ _ _ => F'); (with_reducible rename News _ _ _ _ => N'); (refine cut_baN (s := ⟨_, _, _, _, _⟩) F' N' (by k_mem) (by constructor) (by constructor) (by (first | assumption | exact Nat.le_trans (KBc.size_picked_le _ _ _) (by assumption))) ?_); intro _ _ _ _ _))
local macro_rules | `(tactic| walk_at "call builtin:len") => `(tactic| (k_here; (with_reducible show wpAny _ _ (call (Value.builtin "len") [Value.bytes (rdB _ _ _) _]) _ _ _); refine len_bytes (Nat.le_trans rdB_le (by omega)) ?_))
local macro_rules | `(tactic| walk_at "call builtin:_struct.unpack") => `(tactic| (k_here; k_dflt (refine' unpackBN ?F ?N ?hb ?_; (case F => k_asm); (case N => k_asm); (case hb => assumption); k_whole); intro _ _ _ _ F' N' l1; (try k_lt l1)))
local macro_rules | `(tactic| walk_at "call type:enumerate") => `(tactic| (k_here; (with_reducible show wpAny _ _ (call (Value.type _) [Value.bytes _ _]) _ _ _); k_dflt (refine' call_enumB rfl ?hk ?F ?N ?_; (case hk => assumption); (case F => k_asm); (case N => k_asm); k_whole); intro _ _ F' N' S'))
local macro_rules | `(tactic| walk_at "pyReprObj bytes") => `(tactic| (k_here; (refine repr_bytes (by first | assumption | exact Nat.le_trans rdB_le (by omega)) (by first | assumption | exact literal_le (by first | omega | exact Nat.le_trans rdB_le (by omega))) ?_)))
local macro_rules | `(tactic| walk_at "call ref") => `(tactic| (k_here; k_dflt (first
  | ((with_reducible show wpAny _ _ (call (Value.ref 250) _) _ _ _); refine' tell_pk ?B ?F ?X ?T ?hk ?hd ?hu ?N ?P1 ?P2 ?_; (case F => k_asm); (case X => k_asm); (case T => k_asm); (case B => k_asm); (case hk => (first | assumption | rfl)); (case N => k_asm); (case hd => (first | omega | ((try simp only [depth_deeper, units_deeper, depth_in1, units_in1]); (try dsimp only [ktrTop]); omega))); (case hu => (first | omega | ((try simp only [depth_deeper, units_deeper, depth_in1, units_in1]); (try dsimp only [ktrTop]); omega))); (case P1 => k_upd); (case P2 => k_upd); k_whole; intro _ _ _ F' N')
  | ((with_reducible show wpAny _ _ (call (Value.ref 258) _) _ _ _); refine' end_pk ?B ?F ?X ?T ?hk ?hd ?hu ?hz ?N ?P1 ?P2 ?P3 ?n1 ?n2 ?n3 ?_; (case F => k_asm); (case X => k_asm); (case T => k_asm); (case B => k_asm); (case hk => (first | assumption | rfl)); (case N => k_asm); (case hd => (first | omega | ((try simp only [depth_deeper, units_deeper, depth_in1, units_in1]); (try dsimp only [ktrTop]); omega))); (case hu => (first | omega | ((try simp only [depth_deeper, units_deeper, depth_in1, units_in1]); (try dsimp only [ktrTop]); omega))); (case hz => assumption); (case P1 => k_upd); (case P2 => k_upd); (case P3 => k_upd); (case n1 => (first | assumption | k_ne)); (case n2 => (first | assumption | k_ne)); (case n3 => k_all); k_whole; intro _ _ _ _ F' N')
  | ((with_reducible show wpAny _ _ (call (Value.ref 258) _) _ _ _); refine' seek_pk ?B ?F ?X ?T ?hk ?hd ?hu ?h0 ?h1 ?N ?P1 ?P2 ?n1 ?n3 ?_; (case F => k_asm); (case X => k_asm); (case T => k_asm); (case B => k_asm); (case hk => (first | assumption | rfl)); (case N => k_asm); (case hd => (first | omega | ((try simp only [depth_deeper, units_deeper, depth_in1, units_in1]); (try dsimp only [ktrTop]); omega))); (case hu => (first | omega | ((try simp only [depth_deeper, units_deeper, depth_in1, units_in1]); (try dsimp only [ktrTop]); omega))); (case h0 => (first | omega | ((try simp only [depth_deeper, units_deeper, depth_in1, units_in1]); (try dsimp only [ktrTop]); omega))); (case h1 => (first | omega | ((try simp only [depth_deeper, units_deeper, depth_in1, units_in1]); (try dsimp only [ktrTop]); omega))); (case P1 => k_upd); (case P2 => k_upd); (case n1 => (first | assumption | k_ne)); (case n3 => k_all); k_whole; intro _ _ _ _ F' N')
  | ((with_reducible show wpAny _ _ (call (Value.ref 274) _) _ _ _); refine' read_pk ?B ?F ?X ?T ?hk ?hd ?hu ?h1 ?hp ?hz ?N ?P1 ?P2 ?P3 ?n1 ?n2 ?n3 ?_; (case F => k_asm); (case X => k_asm); (case T => k_asm); (case B => k_asm); (case hk => (first | assumption | rfl)); (case N => k_asm); (case hd => (first | omega | ((try simp only [depth_deeper, units_deeper, depth_in1, units_in1]); (try dsimp only [ktrTop]); omega))); (case hu => (first | omega | ((try simp only [depth_deeper, units_deeper, depth_in1, units_in1]); (try dsimp only [ktrTop]); omega))); (case h1 => (first | omega | ((try simp only [depth_deeper, units_deeper, depth_in1, units_in1]); (try dsimp only [ktrTop]); omega))); (case hp => (first | omega | ((try simp only [depth_deeper, units_deeper, depth_in1, units_in1]); (try dsimp only [ktrTop]); omega))); (case hz => assumption); (case P1 => k_upd); (case P2 => k_upd); (case P3 => k_upd); (case n1 => (first | assumption | k_ne)); (case n2 => (first | assumption | k_ne)); (case n3 => k_all); k_whole; intro _ _ _ _ F' N')
  | ((with_reducible show wpAny _ _ (call (Value.ref 274) _) _ _ _); refine' full_pk ?B ?F ?X ?T ?hk ?hd ?hu ?hp ?hz ?N ?P1 ?P2 ?P3 ?n1 ?n2 ?n3 ?_; (case F => k_asm); (case X => k_asm); (case T => k_asm); (case B => k_asm); (case hk => (first | assumption | rfl)); (case N => k_asm); (case hd => (first | omega | ((try simp only [depth_deeper, units_deeper, depth_in1, units_in1]); (try dsimp only [ktrTop]); omega))); (case hu => (first | omega | ((try simp only [depth_deeper, units_deeper, depth_in1, units_in1]); (try dsimp only [ktrTop]); omega))); (case hp => (first | omega | ((try simp only [depth_deeper, units_deeper, depth_in1, units_in1]); (try dsimp only [ktrTop]); omega))); (case hz => assumption); (case P1 => k_upd); (case P2 => k_upd); (case P3 => k_upd); (case n1 => (first | assumption | k_ne)); (case n2 => (first | assumption | k_ne)); (case n3 => k_all); k_whole; intro _ _ _ _ F' N'))))
section
variable {w : World} {p : Program} {loose : List Str} {mean : ExcName → Option Value} {mg mb : Str → Option Value} {dp un : Nat} {gd : Option (List Code)} {a : Addr} {ccd : Value} {A₀ : Around} {base h₀ : Heap} {L : Addr} {s : Shared} {Qf : Flow → Shared → Prop} {Ef : Value → Shared → Prop}
local macro_rules | `(tactic| walk_at "call ref") => `(tactic| (k_here; (with_reducible show wpAny _ _ (call (Value.ref 1183) _) _ _ _); refine stop_here ?_))
local macro_rules | `(tactic| walk_at "call ref") => `(tactic| (k_here; (with_reducible show wpAny _ _ (call (Value.ref 682) _) _ _ _); refine stop_here ?_))
local macro_rules | `(tactic| walk_at "call ref") => `(tactic| (k_here; (with_reducible show wpAny _ _ (call (Value.ref 1176) _) _ _ _); refine stop_here ?_))
local macro_rules | `(tactic| walk_at "compareOp NotEq ref ref") => `(tactic| (k_here; refine stop_here ?_))
theorem d_hi {σ : Sd} {β : Bd} {y e d R wl sl : Addr} {u1 u2 t ta ti te tkk tx ty : Tok} {rs ws : List Int} {rvs wvs : List Value} {wc rc at_ : Nat} {own : List (Addr × Obj)} {mm : Str → Option Value} {iv X Y : Int}
    (hd : dp ≤ 310) (hu : un ≤ 100) (XB : (K w.params).In base) (TB : Top p loose mean mg mb base) (B : Below A₀ base [] h₀) (KX : (K w.params).In h₀) (T : Top p loose mean mg mb h₀)
    (F : Fr h₀ L s.heap (fun z => if z = Str.ofString "y" then some (.int Y ty) else if z = Str.ofString "x" then some (.int X tx) else if z = Str.ofString "kind" then some (.int 0 tkk) else if z = Str.ofString "i" then some (.int iv ti)
      else if z = Str.ofString "at" then some (.int (at_ : Int) ta) else if z = Str.ofString "waiting" then some (.ref wl) else if z = Str.ofString "row" then some (.ref R) else if z = Str.ofString "stream" then some (.ref y) else if z = Str.ofString "extent" then some (.int (rs.length : Nat) te)
      else if z = Str.ofString "script" then some (.ref sl) else mm z))
    (N : News h₀ L s.heap ((y, instObj 1075 e) :: (e, sdict w σ (ws.length : Nat) u1 (wo ws) u2) :: (σ.io, instObj 350 d) :: (d, bdict w β (at_ : Int) t) :: (β.ba, baObj (byteArr rs)) :: (R, PySem.W.listOf rvs.toArray rc) :: (wl, PySem.W.listOf wvs.toArray wc) :: own))
    (hown : ∀ p ∈ own, p.2.cls ≠ .type "dict") (ap : Ap y e σ.io d β.ba ((R, PySem.W.listOf rvs.toArray rc) :: (wl, PySem.W.listOf wvs.toArray wc) :: own))
    (hri : IntsAre rvs rs) (hrb : ∀ n ∈ rs, 0 ≤ n ∧ n < 256) (hrl : rs.length ≤ 14) (hrl2 : 2 ≤ rs.length) (hwi : IntsAre wvs ws) (hwb : ∀ n ∈ ws, 0 ≤ n ∧ n ≤ 1) (hwn : ws.length < 8) (hat : at_ ≤ rs.length + 1)
    (many : Nat) (hmore : (ws.length : Int) < X.fmod 19) (hn1 : (many : Int) = (X.fmod 19 - ws.length + 7).fdiv 8) (hen : at_ + many ≤ rs.length) :
    wpAny (model prog w) (ktrTop dp un gd lawRec.name lawRec.scope L a ccd [] []) (exec kindIf (envX lawRec.name lawRec.scope L a ccd [])) (Mid w h₀ L σ β y e d R sl te rs rvs rc own s) Ef s := by
  obtain ⟨ap1, ap2, ap3, ap4, ap5, ap6, ap7, ap8, ap9⟩ := ap
  have ao8 : ∀ p ∈ own, p.1 ≠ e := fun p hp => ap8 p (.tail _ (.tail _ hp))
  have ao9 : ∀ p ∈ own, p.1 ≠ d := fun p hp => ap9 p (.tail _ (.tail _ hp))
  have ar8 := ap8 _ (.head _)
  have ar9 := ap9 _ (.head _)
  have aw8 := ap8 _ (.tail _ (.head _))
  have aw9 := ap9 _ (.tail _ (.head _))
  clear ap8 ap9
  dsimp only at ar8 ar9 aw8 aw9
  replace ap1 := neN ap1
  replace ap2 := neN ap2
  replace ap3 := neN ap3
  replace ap4 := neN ap4
  replace ap5 := neN ap5
  replace ap6 := neN ap6
  replace ap7 := neN ap7
  replace ar8 := neN ar8
  replace ar9 := neN ar9
  replace aw8 := neN aw8
  replace aw9 := neN aw9
  have hdr : dp + 400 < recursionLimit := Nat.lt_of_le_of_lt (Nat.add_le_add_right hd 400) (by decide)
  have hur : un + 4000 < cLine := Nat.lt_of_le_of_lt (Nat.add_le_add_right hu 4000) (by decide)
  have hbs : (byteArr rs).size = rs.length := by simp [byteArr]
  have hbz : (byteArr rs).size ≤ 16777216 := by omega
  unfold kindIf loopTail bodyOf
  show wpAny _ _ (exec (Stmt.If _ _ _ _) _) _ _ _
  have hW0 : 0 ≤ X.fmod 19 := fmod_lo X (by decide)
  have hW1 : X.fmod 19 ≤ 18 := by have := fmod_hi X (n := 19) (by decide); omega
  have hws := wo_in hwb
  have hv0 : 0 ≤ wo ws := hws.1
  have hv1 : wo ws < 256 := by
    have h1 := hws.2
    have h2 : (2 : Int) ^ ws.length ≤ 2 ^ 8 := pow_upA (by omega)
    omega
  clear hws
  have hn2 : (many : Int) = (X.fmod 19 - ws.length - 1).fdiv 8 + 1 := by rw [fdiv8] at hn1 ⊢; omega
  have hmn : many ≤ 3 := by rw [fdiv8] at hn1; omega
  have hin : (rdB (byteArr rs) at_ many).size = many := by rw [rdB_size, hbs]; omega
  have hrp : rdP (byteArr rs).size at_ many = at_ + many := by rw [hbs]; unfold rdP; (split <;> omega)
  have hks : KBw.bInts (rdB (byteArr rs) at_ many) = (rs.drop at_).take many := rd_ints hrb
  have hkl : ((rs.drop at_).take many).length ≤ 7 := by rw [List.length_take]; omega
  have hkn : ((rs.drop at_).take many).length = many := by rw [List.length_take, List.length_drop]; omega
  have hki : ∀ k ∈ ((rs.drop at_).take many), 0 ≤ k ∧ k < 256 := fun k hk => hrb k (List.mem_of_mem_drop (List.mem_of_mem_take hk))
  have hEQ := hi_more hwb hki hmore hn2 hkn
  k_steps
  refine Stop.mk ?_
  k_dflt refine' lb_hi ?B ?F ?X ?T ?hk ?hd ?hu ?hri ?hwi ?hrb ?hwb ?hrl ?hwl ?hat ?hW0 ?hW1 ?hmore ?hnk ?hen ?N ?hm1 ?hm2 ?_
  case F => k_asm
  case X => k_asm
  case T => k_asm
  case B => k_asm
  case hk => (first | assumption | rfl)
  case N => k_asm
  case hri => exact hri
  case hwi => exact hwi
  case hrb => exact hrb
  case hwb => exact hwb
  case hwl => assumption
  case hW0 => assumption
  case hW1 => assumption
  case hmore => assumption
  case hnk => assumption
  case hen => assumption
  case hm1 => k_mem
  case hm2 => k_mem
  case hd => (first | omega | ((try simp only [depth_deeper, units_deeper, depth_in1, units_in1]); (try dsimp only [ktrTop]); omega))
  case hu => (first | omega | ((try simp only [depth_deeper, units_deeper, depth_in1, units_in1]); (try dsimp only [ktrTop]); omega))
  case hrl => omega
  case hat => omega
  k_whole
  intro h5 tk5 D5 D6 vs5 c5 t5 t6 F5 N5 I5
  k_steps
  refine Stop.mk ?_
  k_dflt refine' ask_rbM ?B ?F ?X ?T ?XB ?TB ?hk ?hd ?hu ?hp ?hz ?hb0 ?hb1 ?hv0 ?hv1 ?hW ?hmore ?hn ?hnk ?hin ?hks ?hkl ?hki ?N0 ?P1 ?P2 ?P3 ?P4 ?P5 ?ap ?_
  case F => k_asm
  case X => k_asm
  case T => k_asm
  case B => k_asm
  case XB => k_asm
  case TB => k_asm
  case hk => (first | assumption | rfl)
  case N0 => k_asm
  case P1 => k_upd
  case P2 => k_upd
  case P3 => k_upd
  case P4 => k_upd
  case P5 => k_upd
  case ap => (refine apOf (by k_asm) (by k_mem) (by k_mem) (by k_mem) (by k_mem) (by k_mem) ?_; (repeat refine List.forall_mem_cons.mpr ⟨⟨by k_mem, list_nd⟩, ?_⟩); (intro p hp; refine ⟨?_, hown p hp⟩; (repeat (first | exact hp | refine List.Mem.tail _ ?_))))
  case hz => assumption
  case hv0 => assumption
  case hv1 => assumption
  case hW => assumption
  case hmore => assumption
  case hnk => assumption
  case hin => assumption
  case hks => assumption
  case hkl => assumption
  case hki => assumption
  case hd => (first | omega | ((try simp only [depth_deeper, units_deeper, depth_in1, units_in1]); (try dsimp only [ktrTop]); omega))
  case hu => (first | omega | ((try simp only [depth_deeper, units_deeper, depth_in1, units_in1]); (try dsimp only [ktrTop]); omega))
  case hp => (first | omega | ((try simp only [depth_deeper, units_deeper, depth_in1, units_in1]); (try dsimp only [ktrTop]); omega))
  case hb0 => (first | omega | ((try simp only [depth_deeper, units_deeper, depth_in1, units_in1]); (try dsimp only [ktrTop]); omega))
  case hb1 => (first | omega | ((try simp only [depth_deeper, units_deeper, depth_in1, units_in1]); (try dsimp only [ktrTop]); omega))
  case hn => (first | omega | ((try simp only [depth_deeper, units_deeper, depth_in1, units_in1]); (try dsimp only [ktrTop]); omega))
  k_whole
  intro h6 tk6 v1 v2 t2 t4 F6 N6
  k_steps
  · rename ¬ (_ : Int) = _ => hq
    exact absurd hEQ.2.2.symm hq
  · (rename Fr _ _ _ _ => F9)
    (rename News _ _ _ _ => N9)
    rw [hrp, ← hEQ.2.1, ← hEQ.1] at N9
    rw [show ((at_ : Int) + (X.fmod 19 - ws.length + 7).fdiv 8) = ((at_ + many : Nat) : Int) by rw [← hn1]; rfl] at F9
    exact ⟨rfl, _, _, _, _, _, _, _, _, _, _, _, rfl, F9, ⟨⟨_, rfl⟩, rfl, rfl, rfl, rfl, rfl, I5, bits_drop (flat_bits hwb), (by have := hEQ.1; rw [fmod8] at this; omega), (by omega)⟩, news_sub N9 (by ((repeat refine sub_cons (by k_mem) ?_); (repeat first | exact sub_self | exact sub_nil | refine sub_up ?_)))⟩
theorem d_hi0 {σ : Sd} {β : Bd} {y e d R wl sl : Addr} {u1 u2 t ta ti te tkk tx ty : Tok} {rs ws : List Int} {rvs wvs : List Value} {wc rc at_ : Nat} {own : List (Addr × Obj)} {mm : Str → Option Value} {iv X Y : Int}
    (hd : dp ≤ 310) (hu : un ≤ 100) (XB : (K w.params).In base) (TB : Top p loose mean mg mb base) (B : Below A₀ base [] h₀) (KX : (K w.params).In h₀) (T : Top p loose mean mg mb h₀)
    (F : Fr h₀ L s.heap (fun z => if z = Str.ofString "y" then some (.int Y ty) else if z = Str.ofString "x" then some (.int X tx) else if z = Str.ofString "kind" then some (.int 0 tkk) else if z = Str.ofString "i" then some (.int iv ti)
      else if z = Str.ofString "at" then some (.int (at_ : Int) ta) else if z = Str.ofString "waiting" then some (.ref wl) else if z = Str.ofString "row" then some (.ref R) else if z = Str.ofString "stream" then some (.ref y) else if z = Str.ofString "extent" then some (.int (rs.length : Nat) te)
      else if z = Str.ofString "script" then some (.ref sl) else mm z))
    (N : News h₀ L s.heap ((y, instObj 1075 e) :: (e, sdict w σ (ws.length : Nat) u1 (wo ws) u2) :: (σ.io, instObj 350 d) :: (d, bdict w β (at_ : Int) t) :: (β.ba, baObj (byteArr rs)) :: (R, PySem.W.listOf rvs.toArray rc) :: (wl, PySem.W.listOf wvs.toArray wc) :: own))
    (hown : ∀ p ∈ own, p.2.cls ≠ .type "dict") (ap : Ap y e σ.io d β.ba ((R, PySem.W.listOf rvs.toArray rc) :: (wl, PySem.W.listOf wvs.toArray wc) :: own))
    (hri : IntsAre rvs rs) (hrb : ∀ n ∈ rs, 0 ≤ n ∧ n < 256) (hrl : rs.length ≤ 14) (hrl2 : 2 ≤ rs.length) (hwi : IntsAre wvs ws) (hwb : ∀ n ∈ ws, 0 ≤ n ∧ n ≤ 1) (hwn : ws.length < 8) (hat : at_ ≤ rs.length + 1)
    (hless : X.fmod 19 ≤ (ws.length : Int)) :
    wpAny (model prog w) (ktrTop dp un gd lawRec.name lawRec.scope L a ccd [] []) (exec kindIf (envX lawRec.name lawRec.scope L a ccd [])) (Mid w h₀ L σ β y e d R sl te rs rvs rc own s) Ef s := by
  obtain ⟨ap1, ap2, ap3, ap4, ap5, ap6, ap7, ap8, ap9⟩ := ap
  have ao8 : ∀ p ∈ own, p.1 ≠ e := fun p hp => ap8 p (.tail _ (.tail _ hp))
  have ao9 : ∀ p ∈ own, p.1 ≠ d := fun p hp => ap9 p (.tail _ (.tail _ hp))
  have ar8 := ap8 _ (.head _)
  have ar9 := ap9 _ (.head _)
  have aw8 := ap8 _ (.tail _ (.head _))
  have aw9 := ap9 _ (.tail _ (.head _))
  clear ap8 ap9
  dsimp only at ar8 ar9 aw8 aw9
  replace ap1 := neN ap1
  replace ap2 := neN ap2
  replace ap3 := neN ap3
  replace ap4 := neN ap4
  replace ap5 := neN ap5
  replace ap6 := neN ap6
  replace ap7 := neN ap7
  replace ar8 := neN ar8
  replace ar9 := neN ar9
  replace aw8 := neN aw8
  replace aw9 := neN aw9
  have hdr : dp + 400 < recursionLimit := Nat.lt_of_le_of_lt (Nat.add_le_add_right hd 400) (by decide)
  have hur : un + 4000 < cLine := Nat.lt_of_le_of_lt (Nat.add_le_add_right hu 4000) (by decide)
  have hbs : (byteArr rs).size = rs.length := by simp [byteArr]
  have hbz : (byteArr rs).size ≤ 16777216 := by omega
  unfold kindIf loopTail bodyOf
  show wpAny _ _ (exec (Stmt.If _ _ _ _) _) _ _ _
  have hW0 : 0 ≤ X.fmod 19 := fmod_lo X (by decide)
  have hW1 : X.fmod 19 ≤ 18 := by have := fmod_hi X (n := 19) (by decide); omega
  have hws := wo_in hwb
  have hv0 : 0 ≤ wo ws := hws.1
  have hv1 : wo ws < 256 := by
    have h1 := hws.2
    have h2 : (2 : Int) ^ ws.length ≤ 2 ^ 8 := pow_upA (by omega)
    omega
  clear hws
  have hEQ := hi_less hwb hW0 hless hwn
  k_steps
  refine Stop.mk ?_
  k_dflt refine' lb_hi0 ?B ?F ?X ?T ?hk ?hd ?hu ?hri ?hwi ?hrb ?hwb ?hrl ?hwl ?hat ?hW0 ?hW1 ?hless ?N ?hm1 ?hm2 ?_
  case F => k_asm
  case X => k_asm
  case T => k_asm
  case B => k_asm
  case hk => (first | assumption | rfl)
  case N => k_asm
  case hri => exact hri
  case hwi => exact hwi
  case hrb => exact hrb
  case hwb => exact hwb
  case hwl => assumption
  case hW0 => assumption
  case hW1 => assumption
  case hless => assumption
  case hm1 => k_mem
  case hm2 => k_mem
  case hd => (first | omega | ((try simp only [depth_deeper, units_deeper, depth_in1, units_in1]); (try dsimp only [ktrTop]); omega))
  case hu => (first | omega | ((try simp only [depth_deeper, units_deeper, depth_in1, units_in1]); (try dsimp only [ktrTop]); omega))
  case hrl => omega
  case hat => omega
  k_whole
  intro h5 tk5 D5 D6 vs5 c5 t5 t6 F5 N5 I5
  k_steps
  refine Stop.mk ?_
  k_dflt refine' ask_rbL (ks := []) ?B ?F ?X ?T ?XB ?TB ?hk ?hd ?hu ?hb0 ?hb1 ?hv0 ?hv1 ?hW0 ?hless ?N0 ?P1 ?P2 ?P3 ?P4 ?P5 ?ap ?_
  case F => k_asm
  case X => k_asm
  case T => k_asm
  case B => k_asm
  case XB => k_asm
  case TB => k_asm
  case hk => (first | assumption | rfl)
  case N0 => k_asm
  case P1 => k_upd
  case P2 => k_upd
  case P3 => k_upd
  case P4 => k_upd
  case P5 => k_upd
  case ap => (refine apOf (by k_asm) (by k_mem) (by k_mem) (by k_mem) (by k_mem) (by k_mem) ?_; (repeat refine List.forall_mem_cons.mpr ⟨⟨by k_mem, list_nd⟩, ?_⟩); (intro p hp; refine ⟨?_, hown p hp⟩; (repeat (first | exact hp | refine List.Mem.tail _ ?_))))
  case hv0 => assumption
  case hv1 => assumption
  case hW0 => assumption
  case hless => assumption
  case hd => (first | omega | ((try simp only [depth_deeper, units_deeper, depth_in1, units_in1]); (try dsimp only [ktrTop]); omega))
  case hu => (first | omega | ((try simp only [depth_deeper, units_deeper, depth_in1, units_in1]); (try dsimp only [ktrTop]); omega))
  case hb0 => (first | omega | ((try simp only [depth_deeper, units_deeper, depth_in1, units_in1]); (try dsimp only [ktrTop]); omega))
  case hb1 => (first | omega | ((try simp only [depth_deeper, units_deeper, depth_in1, units_in1]); (try dsimp only [ktrTop]); omega))
  k_whole
  intro h6 tk6 v1 v2 t2 t4 F6 N6
  k_steps
  · rename ¬ (_ : Int) = _ => hq
    exact absurd hEQ.2.2.symm hq
  · (rename Fr _ _ _ _ => F9)
    (rename News _ _ _ _ => N9)
    rw [← hEQ.2.1, ← hEQ.1] at N9
    rw [show ((at_ : Int) + 0) = ((at_ : Nat) : Int) by omega] at F9
    exact ⟨rfl, _, _, _, _, _, _, _, _, _, _, _, rfl, F9, ⟨⟨_, rfl⟩, rfl, rfl, rfl, rfl, rfl, I5, bits_drop hwb, (by have := hEQ.1; rw [fmod8] at this; omega), (by omega)⟩, news_sub N9 (by ((repeat refine sub_cons (by k_mem) ?_); (repeat first | exact sub_self | exact sub_nil | refine sub_up ?_)))⟩
theorem d_hiS {σ : Sd} {β : Bd} {y e d R wl sl : Addr} {u1 u2 t ta ti te tkk tx ty : Tok} {rs ws : List Int} {rvs wvs : List Value} {wc rc at_ : Nat} {own : List (Addr × Obj)} {mm : Str → Option Value} {iv X Y : Int}
    (hd : dp ≤ 310) (hu : un ≤ 100) (XB : (K w.params).In base) (TB : Top p loose mean mg mb base) (B : Below A₀ base [] h₀) (KX : (K w.params).In h₀) (T : Top p loose mean mg mb h₀)
    (F : Fr h₀ L s.heap (fun z => if z = Str.ofString "y" then some (.int Y ty) else if z = Str.ofString "x" then some (.int X tx) else if z = Str.ofString "kind" then some (.int 0 tkk) else if z = Str.ofString "i" then some (.int iv ti)
      else if z = Str.ofString "at" then some (.int (at_ : Int) ta) else if z = Str.ofString "waiting" then some (.ref wl) else if z = Str.ofString "row" then some (.ref R) else if z = Str.ofString "stream" then some (.ref y) else if z = Str.ofString "extent" then some (.int (rs.length : Nat) te)
      else if z = Str.ofString "script" then some (.ref sl) else mm z))
    (N : News h₀ L s.heap ((y, instObj 1075 e) :: (e, sdict w σ (ws.length : Nat) u1 (wo ws) u2) :: (σ.io, instObj 350 d) :: (d, bdict w β (at_ : Int) t) :: (β.ba, baObj (byteArr rs)) :: (R, PySem.W.listOf rvs.toArray rc) :: (wl, PySem.W.listOf wvs.toArray wc) :: own))
    (hown : ∀ p ∈ own, p.2.cls ≠ .type "dict") (ap : Ap y e σ.io d β.ba ((R, PySem.W.listOf rvs.toArray rc) :: (wl, PySem.W.listOf wvs.toArray wc) :: own))
    (hri : IntsAre rvs rs) (hrb : ∀ n ∈ rs, 0 ≤ n ∧ n < 256) (hrl : rs.length ≤ 14) (hrl2 : 2 ≤ rs.length) (hwi : IntsAre wvs ws) (hwb : ∀ n ∈ ws, 0 ≤ n ∧ n ≤ 1) (hwn : ws.length < 8) (hat : at_ ≤ rs.length + 1)
    (many : Nat) (hmore : (ws.length : Int) < X.fmod 19) (hn1 : (many : Int) = (X.fmod 19 - ws.length + 7).fdiv 8) (hsh : rs.length < at_ + many) :
    wpAny (model prog w) (ktrTop dp un gd lawRec.name lawRec.scope L a ccd [] []) (exec kindIf (envX lawRec.name lawRec.scope L a ccd [])) (Mid w h₀ L σ β y e d R sl te rs rvs rc own s) Ef s := by
  obtain ⟨ap1, ap2, ap3, ap4, ap5, ap6, ap7, ap8, ap9⟩ := ap
  have ao8 : ∀ p ∈ own, p.1 ≠ e := fun p hp => ap8 p (.tail _ (.tail _ hp))
  have ao9 : ∀ p ∈ own, p.1 ≠ d := fun p hp => ap9 p (.tail _ (.tail _ hp))
  have ar8 := ap8 _ (.head _)
  have ar9 := ap9 _ (.head _)
  have aw8 := ap8 _ (.tail _ (.head _))
  have aw9 := ap9 _ (.tail _ (.head _))
  clear ap8 ap9
  dsimp only at ar8 ar9 aw8 aw9
  replace ap1 := neN ap1
  replace ap2 := neN ap2
  replace ap3 := neN ap3
  replace ap4 := neN ap4
  replace ap5 := neN ap5
  replace ap6 := neN ap6
  replace ap7 := neN ap7
  replace ar8 := neN ar8
  replace ar9 := neN ar9
  replace aw8 := neN aw8
  replace aw9 := neN aw9
  have hdr : dp + 400 < recursionLimit := Nat.lt_of_le_of_lt (Nat.add_le_add_right hd 400) (by decide)
  have hur : un + 4000 < cLine := Nat.lt_of_le_of_lt (Nat.add_le_add_right hu 4000) (by decide)
  have hbs : (byteArr rs).size = rs.length := by simp [byteArr]
  have hbz : (byteArr rs).size ≤ 16777216 := by omega
  unfold kindIf loopTail bodyOf
  show wpAny _ _ (exec (Stmt.If _ _ _ _) _) _ _ _
  have hW0 : 0 ≤ X.fmod 19 := fmod_lo X (by decide)
  have hW1 : X.fmod 19 ≤ 18 := by have := fmod_hi X (n := 19) (by decide); omega
  have hws := wo_in hwb
  have hv0 : 0 ≤ wo ws := hws.1
  have hv1 : wo ws < 256 := by
    have h1 := hws.2
    have h2 : (2 : Int) ^ ws.length ≤ 2 ^ 8 := pow_upA (by omega)
    omega
  clear hws
  have hn2 : (many : Int) = (X.fmod 19 - ws.length - 1).fdiv 8 + 1 := by rw [fdiv8] at hn1 ⊢; omega
  have hmn : many ≤ 3 := by rw [fdiv8] at hn1; omega
  have hm1 : 1 ≤ many := by rw [fdiv8] at hn1; omega
  have hin : (rdB (byteArr rs) at_ many).size < many := by rw [rdB_size, hbs]; omega
  have hle : (rdB (byteArr rs) at_ many).size = rs.length - at_ := by rw [rdB_size, hbs]; omega
  have e1 : (X.fmod 19 - ws.length - 1).fdiv 8 + 1 = (X.fmod 19 - ws.length + 7).fdiv 8 := by rw [fdiv8, fdiv8]; omega
  have hY0 := fmod_lo Y (n := (rs.length : Nat) + 1) (by omega)
  have hY1 := fmod_hi Y (n := (rs.length : Nat) + 1) (by omega)
  obtain ⟨n9, hn9⟩ := Int.eq_ofNat_of_zero_le hY0
  k_steps
  refine Stop.mk ?_
  k_dflt refine' lb_hiS ?B ?F ?X ?T ?hk ?hd ?hu ?hri ?hwi ?hrb ?hwb ?hrl ?hwl ?hat ?hW0 ?hW1 ?hmore ?hnk ?hsh ?N ?hm1 ?hm2 ?_
  case F => k_asm
  case X => k_asm
  case T => k_asm
  case B => k_asm
  case hk => (first | assumption | rfl)
  case N => k_asm
  case hri => exact hri
  case hwi => exact hwi
  case hrb => exact hrb
  case hwb => exact hwb
  case hwl => assumption
  case hW0 => assumption
  case hW1 => assumption
  case hmore => assumption
  case hnk => assumption
  case hsh => assumption
  case hm1 => k_mem
  case hm2 => k_mem
  case hd => (first | omega | ((try simp only [depth_deeper, units_deeper, depth_in1, units_in1]); (try dsimp only [ktrTop]); omega))
  case hu => (first | omega | ((try simp only [depth_deeper, units_deeper, depth_in1, units_in1]); (try dsimp only [ktrTop]); omega))
  case hrl => omega
  case hat => omega
  k_whole
  intro h5 tk5 D5 t5 t6 t7 t8 F5 N5
  k_steps
  refine Stop.mk ?_
  k_dflt refine' ask_rbS (ks := []) ?B ?F ?X ?T ?XB ?TB ?hk ?hd ?hu ?hp ?hz ?hb0 ?hb1 ?hv0 ?hv1 ?hW ?hmore ?hn ?hnk ?hin ?N0 ?P1 ?P2 ?P3 ?P4 ?P5 ?ap ?_
  case F => k_asm
  case X => k_asm
  case T => k_asm
  case B => k_asm
  case XB => k_asm
  case TB => k_asm
  case hk => (first | assumption | rfl)
  case N0 => k_asm
  case P1 => k_upd
  case P2 => k_upd
  case P3 => k_upd
  case P4 => k_upd
  case P5 => k_upd
  case ap => (refine apOf (by k_asm) (by k_mem) (by k_mem) (by k_mem) (by k_mem) (by k_mem) ?_; (repeat refine List.forall_mem_cons.mpr ⟨⟨by k_mem, list_nd⟩, ?_⟩); (intro p hp; refine ⟨?_, hown p hp⟩; (repeat (first | exact hp | refine List.Mem.tail _ ?_))))
  case hz => assumption
  case hv0 => assumption
  case hv1 => assumption
  case hW => assumption
  case hmore => assumption
  case hnk => assumption
  case hin => assumption
  case hd => (first | omega | ((try simp only [depth_deeper, units_deeper, depth_in1, units_in1]); (try dsimp only [ktrTop]); omega))
  case hu => (first | omega | ((try simp only [depth_deeper, units_deeper, depth_in1, units_in1]); (try dsimp only [ktrTop]); omega))
  case hp => (first | omega | ((try simp only [depth_deeper, units_deeper, depth_in1, units_in1]); (try dsimp only [ktrTop]); omega))
  case hb0 => (first | omega | ((try simp only [depth_deeper, units_deeper, depth_in1, units_in1]); (try dsimp only [ktrTop]); omega))
  case hb1 => (first | omega | ((try simp only [depth_deeper, units_deeper, depth_in1, units_in1]); (try dsimp only [ktrTop]); omega))
  case hn => (first | omega | ((try simp only [depth_deeper, units_deeper, depth_in1, units_in1]); (try dsimp only [ktrTop]); omega))
  k_whole
  intro h6 tk6 D7 v1 v2 t2 w1 w2 w3 w4 F6 N6
  k_steps
  refine Stop.mk ?_
  (rename News _ _ _ _ => N8)
  k_dflt refine' ne_same N8 (by k_mem) (by k_mem) (.cons (.str _ _ rfl) (.cons (.int _ _ e1) (.cons (.int _ _ (congrArg (fun z : Nat => (z : Int)) hle)) (.cons (.str _ _ (by rw [e1, hle])) .nil)))) ?room ?_
  case room => (first | omega | ((try simp only [depth_deeper, units_deeper, depth_in1, units_in1]); (try dsimp only [ktrTop]); omega))
  k_whole
  k_steps
  refine Stop.mk ?_
  k_dflt refine' sseekI ?B ?F ?X ?T ?hk ?hd ?hu ?h0 ?h1 ?N0 ?P1 ?P2 ?P3 ?P4 ?P5 ?ap ?_
  case F => k_asm
  case X => k_asm
  case T => k_asm
  case B => k_asm
  case hk => (first | assumption | rfl)
  case N0 => k_asm
  case P1 => k_upd
  case P2 => k_upd
  case P3 => k_upd
  case P4 => k_upd
  case P5 => k_upd
  case ap => (refine apOf (by k_asm) (by k_mem) (by k_mem) (by k_mem) (by k_mem) (by k_mem) ?_; (repeat refine List.forall_mem_cons.mpr ⟨⟨by k_mem, list_nd⟩, ?_⟩); (intro p hp; refine ⟨?_, hown p hp⟩; (repeat (first | exact hp | refine List.Mem.tail _ ?_))))
  case hd => (first | omega | ((try simp only [depth_deeper, units_deeper, depth_in1, units_in1]); (try dsimp only [ktrTop]); omega))
  case hu => (first | omega | ((try simp only [depth_deeper, units_deeper, depth_in1, units_in1]); (try dsimp only [ktrTop]); omega))
  case h0 => (first | omega | ((try simp only [depth_deeper, units_deeper, depth_in1, units_in1]); (try dsimp only [ktrTop]); omega))
  case h1 => (first | omega | ((try simp only [depth_deeper, units_deeper, depth_in1, units_in1]); (try dsimp only [ktrTop]); omega))
  k_whole
  intro h7 tk7 v3 v4 t9 F7 N7
  k_steps
  (rename Fr _ _ _ _ => F9)
  (rename News _ _ _ _ => N9)
  rw [hn9] at F9 N9
  exact ⟨rfl, _, _, _, _, _, _, [], [], 0, _, n9, rfl, F9, ⟨⟨_, rfl⟩, rfl, rfl, rfl, rfl, rfl, .nil, (fun _ h => nomatch h), (by decide), (by omega)⟩, news_sub N9 (by ((repeat refine sub_cons (by k_mem) ?_); (repeat first | exact sub_self | exact sub_nil | refine sub_up ?_)))⟩
end
end Mine
end
section
open PySem PySem.W PySem.Calls PyProof.Rows PySem.Spec
set_option maxRecDepth 100000
set_option maxHeartbeats 8000000
namespace Mine
theorem resetDlo {M : Model} {A : Around} {env : Env} {x : Str} {v : Value} {Q : Unit → Shared → Prop} {E : Value → Shared → Prop} {s : Shared} (h : wpAny M A (storeName env x v) Q E s) : wpAny M A (storeName env x v) Q E s := by
  w_top off
  k_with_none
  first
    | (walk1; fail)
    | exact h
local macro_rules | `(tactic| k_upd) => `(tactic| first | exact Pick.head | (refine' Pick.tail ?pp; (case pp => k_upd)))
local macro_rules | `(tactic| k_all) => `(tactic| assumption)
local macro_rules | `(tactic| k_room) => `(tactic| ktr_room)
local macro_rules | `(tactic| walk_at "call type:type") => `(tactic| refine call_type_of (PySem.W.typeIs_bytes _ _ _) (by decide +kernel) ?_)
local macro_rules | `(tactic| walk_at "call builtin:len") => `(tactic| (k_here; (with_reducible show wpAny _ _ (call (Value.builtin "len") [Value.ref _]) _ _ _); k_dflt (refine' len_baN ?N ?m ?z ?_; (case N => k_asm); (case m => k_mem); (case z => (first | assumption | exact Nat.le_trans (KBc.size_picked_le _ _ _) (by assumption))); k_whole); intro _ _))
local macro_rules | `(tactic| walk_at "call type:bytes") => `(tactic| (k_here; (with_reducible show wpAny _ _ (call (Value.type "bytes") [Value.ref _]) _ _ _); k_dflt (refine' bytes_baN ?N ?m ?z ?_; (case N => k_asm); (case m => k_mem); (case z => (first | assumption | exact Nat.le_trans (KBc.size_picked_le _ _ _) (by assumption))); k_whole); intro _ _))
local macro_rules | `(tactic| walk_at "subscriptTail") => `(tactic| (k_here; (with_reducible show wpAny _ _ (subscriptTail _ (Expr.Slice _ _ none _) (Value.ref _) (Value.ref _)) _ _ _); (with_reducible rename Fr _ _ _ _ => F'); (with_reducible rename News _ _ _ _ => N'); (refine cut_baN (s := ⟨_, _, _, _, _⟩) F' N' (by k_mem) (by constructor) (by constructor) (by (first | assumption | exact Nat.le_trans (KBc.size_picked_le _ _ _) (by assumption))) ?_); intro _ _ _ _ _))
local macro_rules | `(tactic| walk_at "call builtin:len") => `(tactic| (k_here; (with_reducible show wpAny _ _ (call (Value.builtin "len") [Value.bytes (rdB _ _ _) _]) _ _ _); refine len_bytes (Nat.le_trans rdB_le (by omega)) ?_))
local macro_rules | `(tactic| walk_at "call builtin:_struct.unpack") => `(tactic| (k_here; k_dflt (refine' unpackBN ?F ?N ?hb ?_; (case F => k_asm); (case N => k_asm); (case hb => assumption); k_whole); intro _ _ _ _ F' N' l1; (try k_lt l1)))
local macro_rules | `(tactic| walk_at "call type:enumerate") => `(tactic| (k_here; (with_reducible show wpAny _ _ (call (Value.type _) [Value.bytes _ _]) _ _ _); k_dflt (refine' call_enumB rfl ?hk ?F ?N ?_; (case hk => assumption); (case F => k_asm); (case N => k_asm); k_whole); intro _ _ F' N' S'))
local macro_rules | `(tactic| walk_at "pyReprObj bytes") => `(tactic| (k_here; (refine repr_bytes (by first | assumption | exact Nat.le_trans rdB_le (by omega)) (by first | assumption | exact literal_le (by first | omega | exact Nat.le_trans rdB_le (by omega))) ?_)))
local macro_rules | `(tactic| walk_at "call ref") => `(tactic| (k_here; k_dflt (first
  | ((with_reducible show wpAny _ _ (call (Value.ref 250) _) _ _ _); refine' tell_pk ?B ?F ?X ?T ?hk ?hd ?hu ?N ?P1 ?P2 ?_; (case F => k_asm); (case X => k_asm); (case T => k_asm); (case B => k_asm); (case hk => (first | assumption | rfl)); (case N => k_asm); (case hd => (first | omega | ((try simp only [depth_deeper, units_deeper, depth_in1, units_in1]); (try dsimp only [ktrTop]); omega))); (case hu => (first | omega | ((try simp only [depth_deeper, units_deeper, depth_in1, units_in1]); (try dsimp only [ktrTop]); omega))); (case P1 => k_upd); (case P2 => k_upd); k_whole; intro _ _ _ F' N')
  | ((with_reducible show wpAny _ _ (call (Value.ref 258) _) _ _ _); refine' end_pk ?B ?F ?X ?T ?hk ?hd ?hu ?hz ?N ?P1 ?P2 ?P3 ?n1 ?n2 ?n3 ?_; (case F => k_asm); (case X => k_asm); (case T => k_asm); (case B => k_asm); (case hk => (first | assumption | rfl)); (case N => k_asm); (case hd => (first | omega | ((try simp only [depth_deeper, units_deeper, depth_in1, units_in1]); (try dsimp only [ktrTop]); omega))); (case hu => (first | omega | ((try simp only [depth_deeper, units_deeper, depth_in1, units_in1]); (try dsimp only [ktrTop]); omega))); (case hz => assumption); (case P1 => k_upd); (case P2 => k_upd); (case P3 => k_upd); (case n1 => (first | assumption | k_ne)); (case n2 => (first | assumption | k_ne)); (case n3 => k_all); k_whole; intro _ _ _ _ F' N')
  | ((with_reducible show wpAny _ _ (call (Value.ref 258) _) _ _ _); refine' seek_pk ?B ?F ?X ?T ?hk ?hd ?hu ?h0 ?h1 ?N ?P1 ?P2 ?n1 ?n3 ?_; (case F => k_asm); (case X => k_asm); (case T => k_asm); (case B => k_asm); (case hk => (first | assumption | rfl)); (case N => k_asm); (case hd => (first | omega | ((try simp only [depth_deeper, units_deeper, depth_in1, units_in1]); (try dsimp only [ktrTop]); omega))); (case hu => (first | omega | ((try simp only [depth_deeper, units_deeper, depth_in1, units_in1]); (try dsimp only [ktrTop]); omega))); (case h0 => (first | omega | ((try simp only [depth_deeper, units_deeper, depth_in1, units_in1]); (try dsimp only [ktrTop]); omega))); (case h1 => (first | omega | ((try simp only [depth_deeper, units_deeper, depth_in1, units_in1]); (try dsimp only [ktrTop]); omega))); (case P1 => k_upd); (case P2 => k_upd); (case n1 => (first | assumption | k_ne)); (case n3 => k_all); k_whole; intro _ _ _ _ F' N')
  | ((with_reducible show wpAny _ _ (call (Value.ref 274) _) _ _ _); refine' read_pk ?B ?F ?X ?T ?hk ?hd ?hu ?h1 ?hp ?hz ?N ?P1 ?P2 ?P3 ?n1 ?n2 ?n3 ?_; (case F => k_asm); (case X => k_asm); (case T => k_asm); (case B => k_asm); (case hk => (first | assumption | rfl)); (case N => k_asm); (case hd => (first | omega | ((try simp only [depth_deeper, units_deeper, depth_in1, units_in1]); (try dsimp only [ktrTop]); omega))); (case hu => (first | omega | ((try simp only [depth_deeper, units_deeper, depth_in1, units_in1]); (try dsimp only [ktrTop]); omega))); (case h1 => (first | omega | ((try simp only [depth_deeper, units_deeper, depth_in1, units_in1]); (try dsimp only [ktrTop]); omega))); (case hp => (first | omega | ((try simp only [depth_deeper, units_deeper, depth_in1, units_in1]); (try dsimp only [ktrTop]); omega))); (case hz => assumption); (case P1 => k_upd); (case P2 => k_upd); (case P3 => k_upd); (case n1 => (first | assumption | k_ne)); (case n2 => (first | assumption | k_ne)); (case n3 => k_all); k_whole; intro _ _ _ _ F' N')
  | ((with_reducible show wpAny _ _ (call (Value.ref 274) _) _ _ _); refine' full_pk ?B ?F ?X ?T ?hk ?hd ?hu ?hp ?hz ?N ?P1 ?P2 ?P3 ?n1 ?n2 ?n3 ?_; (case F => k_asm); (case X => k_asm); (case T => k_asm); (case B => k_asm); (case hk => (first | assumption | rfl)); (case N => k_asm); (case hd => (first | omega | ((try simp only [depth_deeper, units_deeper, depth_in1, units_in1]); (try dsimp only [ktrTop]); omega))); (case hu => (first | omega | ((try simp only [depth_deeper, units_deeper, depth_in1, units_in1]); (try dsimp only [ktrTop]); omega))); (case hp => (first | omega | ((try simp only [depth_deeper, units_deeper, depth_in1, units_in1]); (try dsimp only [ktrTop]); omega))); (case hz => assumption); (case P1 => k_upd); (case P2 => k_upd); (case P3 => k_upd); (case n1 => (first | assumption | k_ne)); (case n2 => (first | assumption | k_ne)); (case n3 => k_all); k_whole; intro _ _ _ _ F' N'))))
section
variable {w : World} {p : Program} {loose : List Str} {mean : ExcName → Option Value} {mg mb : Str → Option Value} {dp un : Nat} {gd : Option (List Code)} {a : Addr} {ccd : Value} {A₀ : Around} {base h₀ : Heap} {L : Addr} {s : Shared} {Qf : Flow → Shared → Prop} {Ef : Value → Shared → Prop}
local macro_rules | `(tactic| walk_at "call ref") => `(tactic| (k_here; (with_reducible show wpAny _ _ (call (Value.ref 1183) _) _ _ _); refine stop_here ?_))
local macro_rules | `(tactic| walk_at "call ref") => `(tactic| (k_here; (with_reducible show wpAny _ _ (call (Value.ref 682) _) _ _ _); refine stop_here ?_))
local macro_rules | `(tactic| walk_at "call ref") => `(tactic| (k_here; (with_reducible show wpAny _ _ (call (Value.ref 1176) _) _ _ _); refine stop_here ?_))
local macro_rules | `(tactic| walk_at "compareOp NotEq ref ref") => `(tactic| (k_here; refine stop_here ?_))
theorem d_lo {σ : Sd} {β : Bd} {y e d R wl sl : Addr} {u1 u2 t ta ti te tkk tx ty : Tok} {rs ws : List Int} {rvs wvs : List Value} {wc rc at_ : Nat} {own : List (Addr × Obj)} {mm : Str → Option Value} {iv X Y : Int}
    (hd : dp ≤ 310) (hu : un ≤ 100) (XB : (K w.params).In base) (TB : Top p loose mean mg mb base) (B : Below A₀ base [] h₀) (KX : (K w.params).In h₀) (T : Top p loose mean mg mb h₀)
    (F : Fr h₀ L s.heap (fun z => if z = Str.ofString "y" then some (.int Y ty) else if z = Str.ofString "x" then some (.int X tx) else if z = Str.ofString "kind" then some (.int 1 tkk) else if z = Str.ofString "i" then some (.int iv ti)
      else if z = Str.ofString "at" then some (.int (at_ : Int) ta) else if z = Str.ofString "waiting" then some (.ref wl) else if z = Str.ofString "row" then some (.ref R) else if z = Str.ofString "stream" then some (.ref y) else if z = Str.ofString "extent" then some (.int (rs.length : Nat) te)
      else if z = Str.ofString "script" then some (.ref sl) else mm z))
    (N : News h₀ L s.heap ((y, instObj 1075 e) :: (e, sdict w σ (ws.length : Nat) u1 (wo ws) u2) :: (σ.io, instObj 350 d) :: (d, bdict w β (at_ : Int) t) :: (β.ba, baObj (byteArr rs)) :: (R, PySem.W.listOf rvs.toArray rc) :: (wl, PySem.W.listOf wvs.toArray wc) :: own))
    (hown : ∀ p ∈ own, p.2.cls ≠ .type "dict") (ap : Ap y e σ.io d β.ba ((R, PySem.W.listOf rvs.toArray rc) :: (wl, PySem.W.listOf wvs.toArray wc) :: own))
    (hri : IntsAre rvs rs) (hrb : ∀ n ∈ rs, 0 ≤ n ∧ n < 256) (hrl : rs.length ≤ 14) (hrl2 : 2 ≤ rs.length) (hwi : IntsAre wvs ws) (hwb : ∀ n ∈ ws, 0 ≤ n ∧ n ≤ 1) (hwn : ws.length < 8) (hat : at_ ≤ rs.length + 1)
    (many : Nat) (hmore : (ws.length : Int) < X.fmod 19) (hn1 : (many : Int) = (X.fmod 19 - ws.length + 7).fdiv 8) (hen : at_ + many ≤ rs.length) :
    wpAny (model prog w) (ktrTop dp un gd lawRec.name lawRec.scope L a ccd [] []) (exec kindIf (envX lawRec.name lawRec.scope L a ccd [])) (Mid w h₀ L σ β y e d R sl te rs rvs rc own s) Ef s := by
  obtain ⟨ap1, ap2, ap3, ap4, ap5, ap6, ap7, ap8, ap9⟩ := ap
  have ao8 : ∀ p ∈ own, p.1 ≠ e := fun p hp => ap8 p (.tail _ (.tail _ hp))
  have ao9 : ∀ p ∈ own, p.1 ≠ d := fun p hp => ap9 p (.tail _ (.tail _ hp))
  have ar8 := ap8 _ (.head _)
  have ar9 := ap9 _ (.head _)
  have aw8 := ap8 _ (.tail _ (.head _))
  have aw9 := ap9 _ (.tail _ (.head _))
  clear ap8 ap9
  dsimp only at ar8 ar9 aw8 aw9
  replace ap1 := neN ap1
  replace ap2 := neN ap2
  replace ap3 := neN ap3
  replace ap4 := neN ap4
  replace ap5 := neN ap5
  replace ap6 := neN ap6
  replace ap7 := neN ap7
  replace ar8 := neN ar8
  replace ar9 := neN ar9
  replace aw8 := neN aw8
  replace aw9 := neN aw9
  have hdr : dp + 400 < recursionLimit := Nat.lt_of_le_of_lt (Nat.add_le_add_right hd 400) (by decide)
  have hur : un + 4000 < cLine := Nat.lt_of_le_of_lt (Nat.add_le_add_right hu 4000) (by decide)
  have hbs : (byteArr rs).size = rs.length := by simp [byteArr]
  have hbz : (byteArr rs).size ≤ 16777216 := by omega
  unfold kindIf loopTail bodyOf
  show wpAny _ _ (exec (Stmt.If _ _ _ _) _) _ _ _
  have hW0 : 0 ≤ X.fmod 19 := fmod_lo X (by decide)
  have hW1 : X.fmod 19 ≤ 18 := by have := fmod_hi X (n := 19) (by decide); omega
  have hws := wo_in hwb
  have hv0 : 0 ≤ wo ws := hws.1
  have hv1 : wo ws < 256 := by
    have h1 := hws.2
    have h2 : (2 : Int) ^ ws.length ≤ 2 ^ 8 := pow_upA (by omega)
    omega
  clear hws
  have hn2 : (many : Int) = (X.fmod 19 - ws.length - 1).fdiv 8 + 1 := by rw [fdiv8] at hn1 ⊢; omega
  have hmn : many ≤ 3 := by rw [fdiv8] at hn1; omega
  have hin : (rdB (byteArr rs) at_ many).size = many := by rw [rdB_size, hbs]; omega
  have hrp : rdP (byteArr rs).size at_ many = at_ + many := by rw [hbs]; unfold rdP; (split <;> omega)
  have hks : KBw.bInts (rdB (byteArr rs) at_ many) = (rs.drop at_).take many := rd_ints hrb
  have hkl : ((rs.drop at_).take many).length ≤ 7 := by rw [List.length_take]; omega
  have hkn : ((rs.drop at_).take many).length = many := by rw [List.length_take, List.length_drop]; omega
  have hki : ∀ k ∈ ((rs.drop at_).take many), 0 ≤ k ∧ k < 256 := fun k hk => hrb k (List.mem_of_mem_drop (List.mem_of_mem_take hk))
  have hsm : (leFold ((rs.drop at_).take many)).natAbs < 2 ^ 64 := by
    have h1 := leV_in hki
    rw [show leFold ((rs.drop at_).take many) = leV ((rs.drop at_).take many) from leFold_eq hki]
    have h2 : (2 : Int) ^ (8 * ((rs.drop at_).take many).length) ≤ 2 ^ 24 := pow_upA (by omega)
    omega
  have hEQ := lo_more hwb hki hmore hn2 hkn
  k_steps
  refine Stop.mk ?_
  k_dflt refine' lb_lo ?B ?F ?X ?T ?hk ?hd ?hu ?hri ?hwi ?hrb ?hwb ?hrl ?hwl ?hat ?hW0 ?hW1 ?hmore ?hnk ?hen ?N ?hm1 ?hm2 ?_
  case F => k_asm
  case X => k_asm
  case T => k_asm
  case B => k_asm
  case hk => (first | assumption | rfl)
  case N => k_asm
  case hri => exact hri
  case hwi => exact hwi
  case hrb => exact hrb
  case hwb => exact hwb
  case hwl => assumption
  case hW0 => assumption
  case hW1 => assumption
  case hmore => assumption
  case hnk => assumption
  case hen => assumption
  case hm1 => k_mem
  case hm2 => k_mem
  case hd => (first | omega | ((try simp only [depth_deeper, units_deeper, depth_in1, units_in1]); (try dsimp only [ktrTop]); omega))
  case hu => (first | omega | ((try simp only [depth_deeper, units_deeper, depth_in1, units_in1]); (try dsimp only [ktrTop]); omega))
  case hrl => omega
  case hat => omega
  k_whole
  intro h5 tk5 D5 D6 vs5 c5 t5 t6 F5 N5 I5
  k_steps
  refine Stop.mk ?_
  k_dflt refine' ask_leM ?B ?F ?X ?T ?XB ?TB ?hk ?hd ?hu ?hp ?hz ?hb0 ?hb1 ?hv0 ?hv1 ?hW ?hmore ?hn ?hnk ?hin ?hks ?hkl ?hki ?hsm ?N0 ?P1 ?P2 ?P3 ?P4 ?P5 ?ap ?_
  case F => k_asm
  case X => k_asm
  case T => k_asm
  case B => k_asm
  case XB => k_asm
  case TB => k_asm
  case hk => (first | assumption | rfl)
  case N0 => k_asm
  case P1 => k_upd
  case P2 => k_upd
  case P3 => k_upd
  case P4 => k_upd
  case P5 => k_upd
  case ap => (refine apOf (by k_asm) (by k_mem) (by k_mem) (by k_mem) (by k_mem) (by k_mem) ?_; (repeat refine List.forall_mem_cons.mpr ⟨⟨by k_mem, list_nd⟩, ?_⟩); (intro p hp; refine ⟨?_, hown p hp⟩; (repeat (first | exact hp | refine List.Mem.tail _ ?_))))
  case hz => assumption
  case hv0 => assumption
  case hv1 => assumption
  case hW => assumption
  case hmore => assumption
  case hnk => assumption
  case hin => assumption
  case hks => assumption
  case hkl => assumption
  case hki => assumption
  case hsm => assumption
  case hd => (first | omega | ((try simp only [depth_deeper, units_deeper, depth_in1, units_in1]); (try dsimp only [ktrTop]); omega))
  case hu => (first | omega | ((try simp only [depth_deeper, units_deeper, depth_in1, units_in1]); (try dsimp only [ktrTop]); omega))
  case hp => (first | omega | ((try simp only [depth_deeper, units_deeper, depth_in1, units_in1]); (try dsimp only [ktrTop]); omega))
  case hb0 => (first | omega | ((try simp only [depth_deeper, units_deeper, depth_in1, units_in1]); (try dsimp only [ktrTop]); omega))
  case hb1 => (first | omega | ((try simp only [depth_deeper, units_deeper, depth_in1, units_in1]); (try dsimp only [ktrTop]); omega))
  case hn => (first | omega | ((try simp only [depth_deeper, units_deeper, depth_in1, units_in1]); (try dsimp only [ktrTop]); omega))
  k_whole
  intro h6 tk6 v1 v2 t2 t4 F6 N6
  k_steps
  · rename ¬ (_ : Int) = _ => hq
    exact absurd hEQ.2.2.symm hq
  · (rename Fr _ _ _ _ => F9)
    (rename News _ _ _ _ => N9)
    rw [hrp, ← hEQ.2.1, ← hEQ.1] at N9
    rw [show ((at_ : Int) + (X.fmod 19 - (ws.reverse.length : Int) + 7).fdiv 8) = ((at_ + many : Nat) : Int) by rw [List.length_reverse, ← hn1]; rfl] at F9
    exact ⟨rfl, _, _, _, _, _, _, _, _, _, _, _, rfl, F9, ⟨⟨_, rfl⟩, rfl, rfl, rfl, rfl, rfl, I5, bits_rev (bits_drop (flat_bitsR hwb)), (by have := hEQ.1; rw [fmod8] at this; omega), (by omega)⟩, news_sub N9 (by ((repeat refine sub_cons (by k_mem) ?_); (repeat first | exact sub_self | exact sub_nil | refine sub_up ?_)))⟩
theorem d_lo0 {σ : Sd} {β : Bd} {y e d R wl sl : Addr} {u1 u2 t ta ti te tkk tx ty : Tok} {rs ws : List Int} {rvs wvs : List Value} {wc rc at_ : Nat} {own : List (Addr × Obj)} {mm : Str → Option Value} {iv X Y : Int}
    (hd : dp ≤ 310) (hu : un ≤ 100) (XB : (K w.params).In base) (TB : Top p loose mean mg mb base) (B : Below A₀ base [] h₀) (KX : (K w.params).In h₀) (T : Top p loose mean mg mb h₀)
    (F : Fr h₀ L s.heap (fun z => if z = Str.ofString "y" then some (.int Y ty) else if z = Str.ofString "x" then some (.int X tx) else if z = Str.ofString "kind" then some (.int 1 tkk) else if z = Str.ofString "i" then some (.int iv ti)
      else if z = Str.ofString "at" then some (.int (at_ : Int) ta) else if z = Str.ofString "waiting" then some (.ref wl) else if z = Str.ofString "row" then some (.ref R) else if z = Str.ofString "stream" then some (.ref y) else if z = Str.ofString "extent" then some (.int (rs.length : Nat) te)
      else if z = Str.ofString "script" then some (.ref sl) else mm z))
    (N : News h₀ L s.heap ((y, instObj 1075 e) :: (e, sdict w σ (ws.length : Nat) u1 (wo ws) u2) :: (σ.io, instObj 350 d) :: (d, bdict w β (at_ : Int) t) :: (β.ba, baObj (byteArr rs)) :: (R, PySem.W.listOf rvs.toArray rc) :: (wl, PySem.W.listOf wvs.toArray wc) :: own))
    (hown : ∀ p ∈ own, p.2.cls ≠ .type "dict") (ap : Ap y e σ.io d β.ba ((R, PySem.W.listOf rvs.toArray rc) :: (wl, PySem.W.listOf wvs.toArray wc) :: own))
    (hri : IntsAre rvs rs) (hrb : ∀ n ∈ rs, 0 ≤ n ∧ n < 256) (hrl : rs.length ≤ 14) (hrl2 : 2 ≤ rs.length) (hwi : IntsAre wvs ws) (hwb : ∀ n ∈ ws, 0 ≤ n ∧ n ≤ 1) (hwn : ws.length < 8) (hat : at_ ≤ rs.length + 1)
    (hless : X.fmod 19 ≤ (ws.length : Int)) :
    wpAny (model prog w) (ktrTop dp un gd lawRec.name lawRec.scope L a ccd [] []) (exec kindIf (envX lawRec.name lawRec.scope L a ccd [])) (Mid w h₀ L σ β y e d R sl te rs rvs rc own s) Ef s := by
  obtain ⟨ap1, ap2, ap3, ap4, ap5, ap6, ap7, ap8, ap9⟩ := ap
  have ao8 : ∀ p ∈ own, p.1 ≠ e := fun p hp => ap8 p (.tail _ (.tail _ hp))
  have ao9 : ∀ p ∈ own, p.1 ≠ d := fun p hp => ap9 p (.tail _ (.tail _ hp))
  have ar8 := ap8 _ (.head _)
  have ar9 := ap9 _ (.head _)
  have aw8 := ap8 _ (.tail _ (.head _))
  have aw9 := ap9 _ (.tail _ (.head _))
  clear ap8 ap9
  dsimp only at ar8 ar9 aw8 aw9
  replace ap1 := neN ap1
  replace ap2 := neN ap2
  replace ap3 := neN ap3
  replace ap4 := neN ap4
  replace ap5 := neN ap5
  replace ap6 := neN ap6
  replace ap7 := neN ap7
  replace ar8 := neN ar8
  replace ar9 := neN ar9
  replace aw8 := neN aw8
  replace aw9 := neN aw9
  have hdr : dp + 400 < recursionLimit := Nat.lt_of_le_of_lt (Nat.add_le_add_right hd 400) (by decide)
  have hur : un + 4000 < cLine := Nat.lt_of_le_of_lt (Nat.add_le_add_right hu 4000) (by decide)
  have hbs : (byteArr rs).size = rs.length := by simp [byteArr]
  have hbz : (byteArr rs).size ≤ 16777216 := by omega
  unfold kindIf loopTail bodyOf
  show wpAny _ _ (exec (Stmt.If _ _ _ _) _) _ _ _
  have hW0 : 0 ≤ X.fmod 19 := fmod_lo X (by decide)
  have hW1 : X.fmod 19 ≤ 18 := by have := fmod_hi X (n := 19) (by decide); omega
  have hws := wo_in hwb
  have hv0 : 0 ≤ wo ws := hws.1
  have hv1 : wo ws < 256 := by
    have h1 := hws.2
    have h2 : (2 : Int) ^ ws.length ≤ 2 ^ 8 := pow_upA (by omega)
    omega
  clear hws
  have hEQ := lo_less hwb hW0 hless hwn
  k_steps
  refine Stop.mk ?_
  k_dflt refine' lb_lo0 ?B ?F ?X ?T ?hk ?hd ?hu ?hri ?hwi ?hrb ?hwb ?hrl ?hwl ?hat ?hW0 ?hW1 ?hless ?N ?hm1 ?hm2 ?_
  case F => k_asm
  case X => k_asm
  case T => k_asm
  case B => k_asm
  case hk => (first | assumption | rfl)
  case N => k_asm
  case hri => exact hri
  case hwi => exact hwi
  case hrb => exact hrb
  case hwb => exact hwb
  case hwl => assumption
  case hW0 => assumption
  case hW1 => assumption
  case hless => assumption
  case hm1 => k_mem
  case hm2 => k_mem
  case hd => (first | omega | ((try simp only [depth_deeper, units_deeper, depth_in1, units_in1]); (try dsimp only [ktrTop]); omega))
  case hu => (first | omega | ((try simp only [depth_deeper, units_deeper, depth_in1, units_in1]); (try dsimp only [ktrTop]); omega))
  case hrl => omega
  case hat => omega
  k_whole
  intro h5 tk5 D5 D6 vs5 c5 t5 t6 F5 N5 I5
  k_steps
  refine Stop.mk ?_
  k_dflt refine' ask_leL (ks := []) ?B ?F ?X ?T ?XB ?TB ?hk ?hd ?hu ?hb0 ?hb1 ?hv0 ?hv1 ?hW0 ?hless ?N0 ?P1 ?P2 ?P3 ?P4 ?P5 ?ap ?_
  case F => k_asm
  case X => k_asm
  case T => k_asm
  case B => k_asm
  case XB => k_asm
  case TB => k_asm
  case hk => (first | assumption | rfl)
  case N0 => k_asm
  case P1 => k_upd
  case P2 => k_upd
  case P3 => k_upd
  case P4 => k_upd
  case P5 => k_upd
  case ap => (refine apOf (by k_asm) (by k_mem) (by k_mem) (by k_mem) (by k_mem) (by k_mem) ?_; (repeat refine List.forall_mem_cons.mpr ⟨⟨by k_mem, list_nd⟩, ?_⟩); (intro p hp; refine ⟨?_, hown p hp⟩; (repeat (first | exact hp | refine List.Mem.tail _ ?_))))
  case hv0 => assumption
  case hv1 => assumption
  case hW0 => assumption
  case hless => assumption
  case hd => (first | omega | ((try simp only [depth_deeper, units_deeper, depth_in1, units_in1]); (try dsimp only [ktrTop]); omega))
  case hu => (first | omega | ((try simp only [depth_deeper, units_deeper, depth_in1, units_in1]); (try dsimp only [ktrTop]); omega))
  case hb0 => (first | omega | ((try simp only [depth_deeper, units_deeper, depth_in1, units_in1]); (try dsimp only [ktrTop]); omega))
  case hb1 => (first | omega | ((try simp only [depth_deeper, units_deeper, depth_in1, units_in1]); (try dsimp only [ktrTop]); omega))
  k_whole
  intro h6 tk6 v1 v2 t2 t4 F6 N6
  k_steps
  · rename ¬ (_ : Int) = _ => hq
    exact absurd hEQ.2.2.symm hq
  · (rename Fr _ _ _ _ => F9)
    (rename News _ _ _ _ => N9)
    rw [← hEQ.2.1, ← hEQ.1] at N9
    rw [show ((at_ : Int) + 0) = ((at_ : Nat) : Int) by omega] at F9
    exact ⟨rfl, _, _, _, _, _, _, _, _, _, _, _, rfl, F9, ⟨⟨_, rfl⟩, rfl, rfl, rfl, rfl, rfl, I5, bits_rev (bits_drop (bits_rev hwb)), (by have := hEQ.1; rw [fmod8] at this; omega), (by omega)⟩, news_sub N9 (by ((repeat refine sub_cons (by k_mem) ?_); (repeat first | exact sub_self | exact sub_nil | refine sub_up ?_)))⟩
theorem d_loS {σ : Sd} {β : Bd} {y e d R wl sl : Addr} {u1 u2 t ta ti te tkk tx ty : Tok} {rs ws : List Int} {rvs wvs : List Value} {wc rc at_ : Nat} {own : List (Addr × Obj)} {mm : Str → Option Value} {iv X Y : Int}
    (hd : dp ≤ 310) (hu : un ≤ 100) (XB : (K w.params).In base) (TB : Top p loose mean mg mb base) (B : Below A₀ base [] h₀) (KX : (K w.params).In h₀) (T : Top p loose mean mg mb h₀)
    (F : Fr h₀ L s.heap (fun z => if z = Str.ofString "y" then some (.int Y ty) else if z = Str.ofString "x" then some (.int X tx) else if z = Str.ofString "kind" then some (.int 1 tkk) else if z = Str.ofString "i" then some (.int iv ti)
      else if z = Str.ofString "at" then some (.int (at_ : Int) ta) else if z = Str.ofString "waiting" then some (.ref wl) else if z = Str.ofString "row" then some (.ref R) else if z = Str.ofString "stream" then some (.ref y) else if z = Str.ofString "extent" then some (.int (rs.length : Nat) te)
      else if z = Str.ofString "script" then some (.ref sl) else mm z))
    (N : News h₀ L s.heap ((y, instObj 1075 e) :: (e, sdict w σ (ws.length : Nat) u1 (wo ws) u2) :: (σ.io, instObj 350 d) :: (d, bdict w β (at_ : Int) t) :: (β.ba, baObj (byteArr rs)) :: (R, PySem.W.listOf rvs.toArray rc) :: (wl, PySem.W.listOf wvs.toArray wc) :: own))
    (hown : ∀ p ∈ own, p.2.cls ≠ .type "dict") (ap : Ap y e σ.io d β.ba ((R, PySem.W.listOf rvs.toArray rc) :: (wl, PySem.W.listOf wvs.toArray wc) :: own))
    (hri : IntsAre rvs rs) (hrb : ∀ n ∈ rs, 0 ≤ n ∧ n < 256) (hrl : rs.length ≤ 14) (hrl2 : 2 ≤ rs.length) (hwi : IntsAre wvs ws) (hwb : ∀ n ∈ ws, 0 ≤ n ∧ n ≤ 1) (hwn : ws.length < 8) (hat : at_ ≤ rs.length + 1)
    (many : Nat) (hmore : (ws.length : Int) < X.fmod 19) (hn1 : (many : Int) = (X.fmod 19 - ws.length + 7).fdiv 8) (hsh : rs.length < at_ + many) :
    wpAny (model prog w) (ktrTop dp un gd lawRec.name lawRec.scope L a ccd [] []) (exec kindIf (envX lawRec.name lawRec.scope L a ccd [])) (Mid w h₀ L σ β y e d R sl te rs rvs rc own s) Ef s := by
  obtain ⟨ap1, ap2, ap3, ap4, ap5, ap6, ap7, ap8, ap9⟩ := ap
  have ao8 : ∀ p ∈ own, p.1 ≠ e := fun p hp => ap8 p (.tail _ (.tail _ hp))
  have ao9 : ∀ p ∈ own, p.1 ≠ d := fun p hp => ap9 p (.tail _ (.tail _ hp))
  have ar8 := ap8 _ (.head _)
  have ar9 := ap9 _ (.head _)
  have aw8 := ap8 _ (.tail _ (.head _))
  have aw9 := ap9 _ (.tail _ (.head _))
  clear ap8 ap9
  dsimp only at ar8 ar9 aw8 aw9
  replace ap1 := neN ap1
  replace ap2 := neN ap2
  replace ap3 := neN ap3
  replace ap4 := neN ap4
  replace ap5 := neN ap5
  replace ap6 := neN ap6
  replace ap7 := neN ap7
  replace ar8 := neN ar8
  replace ar9 := neN ar9
  replace aw8 := neN aw8
  replace aw9 := neN aw9
  have hdr : dp + 400 < recursionLimit := Nat.lt_of_le_of_lt (Nat.add_le_add_right hd 400) (by decide)
  have hur : un + 4000 < cLine := Nat.lt_of_le_of_lt (Nat.add_le_add_right hu 4000) (by decide)
  have hbs : (byteArr rs).size = rs.length := by simp [byteArr]
  have hbz : (byteArr rs).size ≤ 16777216 := by omega
  unfold kindIf loopTail bodyOf
  show wpAny _ _ (exec (Stmt.If _ _ _ _) _) _ _ _
  have hW0 : 0 ≤ X.fmod 19 := fmod_lo X (by decide)
  have hW1 : X.fmod 19 ≤ 18 := by have := fmod_hi X (n := 19) (by decide); omega
  have hws := wo_in hwb
  have hv0 : 0 ≤ wo ws := hws.1
  have hv1 : wo ws < 256 := by
    have h1 := hws.2
    have h2 : (2 : Int) ^ ws.length ≤ 2 ^ 8 := pow_upA (by omega)
    omega
  clear hws
  have hn2 : (many : Int) = (X.fmod 19 - ws.length - 1).fdiv 8 + 1 := by rw [fdiv8] at hn1 ⊢; omega
  have hmn : many ≤ 3 := by rw [fdiv8] at hn1; omega
  have hm1 : 1 ≤ many := by rw [fdiv8] at hn1; omega
  have hin : (rdB (byteArr rs) at_ many).size < many := by rw [rdB_size, hbs]; omega
  have hle : (rdB (byteArr rs) at_ many).size = rs.length - at_ := by rw [rdB_size, hbs]; omega
  have e1 : (X.fmod 19 - ws.length - 1).fdiv 8 + 1 = (X.fmod 19 - ws.length + 7).fdiv 8 := by rw [fdiv8, fdiv8]; omega
  have e1 : (X.fmod 19 - ws.length - 1).fdiv 8 + 1 = (X.fmod 19 - (ws.reverse.length : Int) + 7).fdiv 8 := by rw [List.length_reverse]; exact e1
  have hY0 := fmod_lo Y (n := (rs.length : Nat) + 1) (by omega)
  have hY1 := fmod_hi Y (n := (rs.length : Nat) + 1) (by omega)
  obtain ⟨n9, hn9⟩ := Int.eq_ofNat_of_zero_le hY0
  k_steps
  refine Stop.mk ?_
  k_dflt refine' lb_loS ?B ?F ?X ?T ?hk ?hd ?hu ?hri ?hwi ?hrb ?hwb ?hrl ?hwl ?hat ?hW0 ?hW1 ?hmore ?hnk ?hsh ?N ?hm1 ?hm2 ?_
  case F => k_asm
  case X => k_asm
  case T => k_asm
  case B => k_asm
  case hk => (first | assumption | rfl)
  case N => k_asm
  case hri => exact hri
  case hwi => exact hwi
  case hrb => exact hrb
  case hwb => exact hwb
  case hwl => assumption
  case hW0 => assumption
  case hW1 => assumption
  case hmore => assumption
  case hnk => assumption
  case hsh => assumption
  case hm1 => k_mem
  case hm2 => k_mem
  case hd => (first | omega | ((try simp only [depth_deeper, units_deeper, depth_in1, units_in1]); (try dsimp only [ktrTop]); omega))
  case hu => (first | omega | ((try simp only [depth_deeper, units_deeper, depth_in1, units_in1]); (try dsimp only [ktrTop]); omega))
  case hrl => omega
  case hat => omega
  k_whole
  intro h5 tk5 D5 t5 t6 t7 t8 F5 N5
  k_steps
  refine Stop.mk ?_
  k_dflt refine' ask_leS (ks := []) ?B ?F ?X ?T ?XB ?TB ?hk ?hd ?hu ?hp ?hz ?hb0 ?hb1 ?hv0 ?hv1 ?hW ?hmore ?hn ?hnk ?hin ?N0 ?P1 ?P2 ?P3 ?P4 ?P5 ?ap ?_
  case F => k_asm
  case X => k_asm
  case T => k_asm
  case B => k_asm
  case XB => k_asm
  case TB => k_asm
  case hk => (first | assumption | rfl)
  case N0 => k_asm
  case P1 => k_upd
  case P2 => k_upd
  case P3 => k_upd
  case P4 => k_upd
  case P5 => k_upd
  case ap => (refine apOf (by k_asm) (by k_mem) (by k_mem) (by k_mem) (by k_mem) (by k_mem) ?_; (repeat refine List.forall_mem_cons.mpr ⟨⟨by k_mem, list_nd⟩, ?_⟩); (intro p hp; refine ⟨?_, hown p hp⟩; (repeat (first | exact hp | refine List.Mem.tail _ ?_))))
  case hz => assumption
  case hv0 => assumption
  case hv1 => assumption
  case hW => assumption
  case hmore => assumption
  case hnk => assumption
  case hin => assumption
  case hd => (first | omega | ((try simp only [depth_deeper, units_deeper, depth_in1, units_in1]); (try dsimp only [ktrTop]); omega))
  case hu => (first | omega | ((try simp only [depth_deeper, units_deeper, depth_in1, units_in1]); (try dsimp only [ktrTop]); omega))
  case hp => (first | omega | ((try simp only [depth_deeper, units_deeper, depth_in1, units_in1]); (try dsimp only [ktrTop]); omega))
  case hb0 => (first | omega | ((try simp only [depth_deeper, units_deeper, depth_in1, units_in1]); (try dsimp only [ktrTop]); omega))
  case hb1 => (first | omega | ((try simp only [depth_deeper, units_deeper, depth_in1, units_in1]); (try dsimp only [ktrTop]); omega))
  case hn => (first | omega | ((try simp only [depth_deeper, units_deeper, depth_in1, units_in1]); (try dsimp only [ktrTop]); omega))
  k_whole
  intro h6 tk6 D7 v1 v2 t2 w1 w2 w3 w4 F6 N6
  k_steps
  refine Stop.mk ?_
  (rename News _ _ _ _ => N8)
  k_dflt refine' ne_same N8 (by k_mem) (by k_mem) (.cons (.str _ _ rfl) (.cons (.int _ _ e1) (.cons (.int _ _ (congrArg (fun z : Nat => (z : Int)) hle)) (.cons (.str _ _ (by rw [e1, hle])) .nil)))) ?room ?_
  case room => (first | omega | ((try simp only [depth_deeper, units_deeper, depth_in1, units_in1]); (try dsimp only [ktrTop]); omega))
  k_whole
  k_steps
  refine Stop.mk ?_
  k_dflt refine' sseekI ?B ?F ?X ?T ?hk ?hd ?hu ?h0 ?h1 ?N0 ?P1 ?P2 ?P3 ?P4 ?P5 ?ap ?_
  case F => k_asm
  case X => k_asm
  case T => k_asm
  case B => k_asm
  case hk => (first | assumption | rfl)
  case N0 => k_asm
  case P1 => k_upd
  case P2 => k_upd
  case P3 => k_upd
  case P4 => k_upd
  case P5 => k_upd
  case ap => (refine apOf (by k_asm) (by k_mem) (by k_mem) (by k_mem) (by k_mem) (by k_mem) ?_; (repeat refine List.forall_mem_cons.mpr ⟨⟨by k_mem, list_nd⟩, ?_⟩); (intro p hp; refine ⟨?_, hown p hp⟩; (repeat (first | exact hp | refine List.Mem.tail _ ?_))))
  case hd => (first | omega | ((try simp only [depth_deeper, units_deeper, depth_in1, units_in1]); (try dsimp only [ktrTop]); omega))
  case hu => (first | omega | ((try simp only [depth_deeper, units_deeper, depth_in1, units_in1]); (try dsimp only [ktrTop]); omega))
  case h0 => (first | omega | ((try simp only [depth_deeper, units_deeper, depth_in1, units_in1]); (try dsimp only [ktrTop]); omega))
  case h1 => (first | omega | ((try simp only [depth_deeper, units_deeper, depth_in1, units_in1]); (try dsimp only [ktrTop]); omega))
  k_whole
  intro h7 tk7 v3 v4 t9 F7 N7
  k_steps
  (rename Fr _ _ _ _ => F9)
  (rename News _ _ _ _ => N9)
  rw [hn9] at F9 N9
  exact ⟨rfl, _, _, _, _, _, _, [], [], 0, _, n9, rfl, F9, ⟨⟨_, rfl⟩, rfl, rfl, rfl, rfl, rfl, .nil, (fun _ h => nomatch h), (by decide), (by omega)⟩, news_sub N9 (by ((repeat refine sub_cons (by k_mem) ?_); (repeat first | exact sub_self | exact sub_nil | refine sub_up ?_)))⟩
end
end Mine
end
section
open PySem PySem.W PySem.Calls PyProof.Rows PySem.Spec
set_option maxRecDepth 100000
set_option maxHeartbeats 8000000
namespace Mine
theorem resetDot {M : Model} {A : Around} {env : Env} {x : Str} {v : Value} {Q : Unit → Shared → Prop} {E : Value → Shared → Prop} {s : Shared} (h : wpAny M A (storeName env x v) Q E s) : wpAny M A (storeName env x v) Q E s := by
  w_top off
  k_with_none
  first
    | (walk1; fail)
    | exact h
local macro_rules | `(tactic| k_upd) => `(tactic| first | exact Pick.head | (refine' Pick.tail ?pp; (case pp => k_upd)))
local macro_rules | `(tactic| k_all) => `(tactic| assumption)
local macro_rules | `(tactic| k_room) => `(tactic| ktr_room)
local macro_rules | `(tactic| walk_at "call type:type") => `(tactic| refine call_type_of (PySem.W.typeIs_bytes _ _ _) (by decide +kernel) ?_)
local macro_rules | `(tactic| walk_at "call builtin:len") => `(tactic| (k_here; (with_reducible show wpAny _ _ (call (Value.builtin "len") [Value.ref _]) _ _ _); k_dflt (refine' len_baN ?N ?m ?z ?_; (case N => k_asm); (case m => k_mem); (case z => (first | assumption | exact Nat.le_trans (KBc.size_picked_le _ _ _) (by assumption))); k_whole); intro _ _))
local macro_rules | `(tactic| walk_at "call type:bytes") => `(tactic| (k_here; (with_reducible show wpAny _ _ (call (Value.type "bytes") [Value.ref _]) _ _ _); k_dflt (refine' bytes_baN ?N ?m ?z ?_; (case N => k_asm); (case m => k_mem); (case z => (first | assumption | exact Nat.le_trans (KBc.size_picked_le _ _ _) (by assumption))); k_whole); intro _ _))
local macro_rules | `(tactic| walk_at "subscriptTail") => `(tactic| (k_here; (with_reducible show wpAny _ _ (subscriptTail _ (Expr.Slice _ _ none _) (Value.ref _) (Value.ref _)) _ _ _); (with_reducible rename Fr _ _ _ _ => F'); (with_reducible rename News _ _ _ _ => N'); (refine cut_baN (s := ⟨_, _, _, _, _⟩) F' N' (by k_mem) (by constructor) (by constructor) (by (first | assumption | exact Nat.le_trans (KBc.size_picked_le _ _ _) (by assumption))) ?_); intro _ _ _ _ _))
local macro_rules | `(tactic| walk_at "call builtin:len") => `(tactic| (k_here; (with_reducible show wpAny _ _ (call (Value.builtin "len") [Value.bytes (rdB _ _ _) _]) _ _ _); refine len_bytes (Nat.le_trans rdB_le (by omega)) ?_))
local macro_rules | `(tactic| walk_at "call builtin:_struct.unpack") => `(tactic| (k_here; k_dflt (refine' unpackBN ?F ?N ?hb ?_; (case F => k_asm); (case N => k_asm); (case hb => assumption); k_whole); intro _ _ _ _ F' N' l1; (try k_lt l1)))
local macro_rules | `(tactic| walk_at "call type:enumerate") => `(tactic| (k_here; (with_reducible show wpAny _ _ (call (Value.type _) [Value.bytes _ _]) _ _ _); k_dflt (refine' call_enumB rfl ?hk ?F ?N ?_; (case hk => assumption); (case F => k_asm); (case N => k_asm); k_whole); intro _ _ F' N' S'))
local macro_rules | `(tactic| walk_at "pyReprObj bytes") => `(tactic| (k_here; (refine repr_bytes (by first | assumption | exact Nat.le_trans rdB_le (by omega)) (by first | assumption | exact literal_le (by first | omega | exact Nat.le_trans rdB_le (by omega))) ?_)))
local macro_rules | `(tactic| walk_at "call ref") => `(tactic| (k_here; k_dflt (first
  | ((with_reducible show wpAny _ _ (call (Value.ref 250) _) _ _ _); refine' tell_pk ?B ?F ?X ?T ?hk ?hd ?hu ?N ?P1 ?P2 ?_; (case F => k_asm); (case X => k_asm); (case T => k_asm); (case B => k_asm); (case hk => (first | assumption | rfl)); (case N => k_asm); (case hd => (first | omega | ((try simp only [depth_deeper, units_deeper, depth_in1, units_in1]); (try dsimp only [ktrTop]); omega))); (case hu => (first | omega | ((try simp only [depth_deeper, units_deeper, depth_in1, units_in1]); (try dsimp only [ktrTop]); omega))); (case P1 => k_upd); (case P2 => k_upd); k_whole; intro _ _ _ F' N')
  | ((with_reducible show wpAny _ _ (call (Value.ref 258) _) _ _ _); refine' end_pk ?B ?F ?X ?T ?hk ?hd ?hu ?hz ?N ?P1 ?P2 ?P3 ?n1 ?n2 ?n3 ?_; (case F => k_asm); (case X => k_asm); (case T => k_asm); (case B => k_asm); (case hk => (first | assumption | rfl)); (case N => k_asm); (case hd => (first | omega | ((try simp only [depth_deeper, units_deeper, depth_in1, units_in1]); (try dsimp only [ktrTop]); omega))); (case hu => (first | omega | ((try simp only [depth_deeper, units_deeper, depth_in1, units_in1]); (try dsimp only [ktrTop]); omega))); (case hz => assumption); (case P1 => k_upd); (case P2 => k_upd); (case P3 => k_upd); (case n1 => (first | assumption | k_ne)); (case n2 => (first | assumption | k_ne)); (case n3 => k_all); k_whole; intro _ _ _ _ F' N')
  | ((with_reducible show wpAny _ _ (call (Value.ref 258) _) _ _ _); refine' seek_pk ?B ?F ?X ?T ?hk ?hd ?hu ?h0 ?h1 ?N ?P1 ?P2 ?n1 ?n3 ?_; (case F => k_asm); (case X => k_asm); (case T => k_asm); (case B => k_asm); (case hk => (first | assumption | rfl)); (case N => k_asm); (case hd => (first | omega | ((try simp only [depth_deeper, units_deeper, depth_in1, units_in1]); (try dsimp only [ktrTop]); omega))); (case hu => (first | omega | ((try simp only [depth_deeper, units_deeper, depth_in1, units_in1]); (try dsimp only [ktrTop]); omega))); (case h0 => (first | omega | ((try simp only [depth_deeper, units_deeper, depth_in1, units_in1]); (try dsimp only [ktrTop]); omega))); (case h1 => (first | omega | ((try simp only [depth_deeper, units_deeper, depth_in1, units_in1]); (try dsimp only [ktrTop]); omega))); (case P1 => k_upd); (case P2 => k_upd); (case n1 => (first | assumption | k_ne)); (case n3 => k_all); k_whole; intro _ _ _ _ F' N')
  | ((with_reducible show wpAny _ _ (call (Value.ref 274) _) _ _ _); refine' read_pk ?B ?F ?X ?T ?hk ?hd ?hu ?h1 ?hp ?hz ?N ?P1 ?P2 ?P3 ?n1 ?n2 ?n3 ?_; (case F => k_asm); (case X => k_asm); (case T => k_asm); (case B => k_asm); (case hk => (first | assumption | rfl)); (case N => k_asm); (case hd => (first | omega | ((try simp only [depth_deeper, units_deeper, depth_in1, units_in1]); (try dsimp only [ktrTop]); omega))); (case hu => (first | omega | ((try simp only [depth_deeper, units_deeper, depth_in1, units_in1]); (try dsimp only [ktrTop]); omega))); (case h1 => (first | omega | ((try simp only [depth_deeper, units_deeper, depth_in1, units_in1]); (try dsimp only [ktrTop]); omega))); (case hp => (first | omega | ((try simp only [depth_deeper, units_deeper, depth_in1, units_in1]); (try dsimp only [ktrTop]); omega))); (case hz => assumption); (case P1 => k_upd); (case P2 => k_upd); (case P3 => k_upd); (case n1 => (first | assumption | k_ne)); (case n2 => (first | assumption | k_ne)); (case n3 => k_all); k_whole; intro _ _ _ _ F' N')
  | ((with_reducible show wpAny _ _ (call (Value.ref 274) _) _ _ _); refine' full_pk ?B ?F ?X ?T ?hk ?hd ?hu ?hp ?hz ?N ?P1 ?P2 ?P3 ?n1 ?n2 ?n3 ?_; (case F => k_asm); (case X => k_asm); (case T => k_asm); (case B => k_asm); (case hk => (first | assumption | rfl)); (case N => k_asm); (case hd => (first | omega | ((try simp only [depth_deeper, units_deeper, depth_in1, units_in1]); (try dsimp only [ktrTop]); omega))); (case hu => (first | omega | ((try simp only [depth_deeper, units_deeper, depth_in1, units_in1]); (try dsimp only [ktrTop]); omega))); (case hp => (first | omega | ((try simp only [depth_deeper, units_deeper, depth_in1, units_in1]); (try dsimp only [ktrTop]); omega))); (case hz => assumption); (case P1 => k_upd); (case P2 => k_upd); (case P3 => k_upd); (case n1 => (first | assumption | k_ne)); (case n2 => (first | assumption | k_ne)); (case n3 => k_all); k_whole; intro _ _ _ _ F' N'))))
theorem at_stay {i n : Nat} (h : n ≤ i) : (if (if (i : Int) > (n : Int) then (i : Int) else (n : Int)) < (i : Int) + 1 then if (i : Int) > (n : Int) then (i : Int) else (n : Int) else (i : Int) + 1) = (i : Int) := by
  by_cases hq : (i : Int) > (n : Int)
  · rw [if_pos hq, if_pos (by omega)]
  · rw [if_neg hq, if_pos (by omega)]; omega
section
variable {w : World} {p : Program} {loose : List Str} {mean : ExcName → Option Value} {mg mb : Str → Option Value} {dp un : Nat} {gd : Option (List Code)} {a : Addr} {ccd : Value} {A₀ : Around} {base h₀ : Heap} {L : Addr} {s : Shared} {Qf : Flow → Shared → Prop} {Ef : Value → Shared → Prop}
local macro_rules | `(tactic| walk_at "call ref") => `(tactic| (k_here; (with_reducible show wpAny _ _ (call (Value.ref 682) _) _ _ _); refine stop_here ?_))
local macro_rules | `(tactic| walk_at "call ref") => `(tactic| (k_here; (with_reducible show wpAny _ _ (call (Value.ref 1183) _) _ _ _); refine stop_here ?_))
local macro_rules | `(tactic| walk_at "call ref") => `(tactic| (k_here; (with_reducible show wpAny _ _ (call (Value.ref 1169) _) _ _ _); refine stop_here ?_))
local macro_rules | `(tactic| walk_at "compareOp NotEq ref ref") => `(tactic| (k_here; refine stop_here ?_))
theorem d_seek {σ : Sd} {β : Bd} {y e d R wl sl : Addr} {u1 u2 t ta ti te tkk tx ty : Tok} {rs ws : List Int} {rvs wvs : List Value} {wc rc at_ : Nat} {own : List (Addr × Obj)} {mm : Str → Option Value} {iv X Y : Int}
    (hd : dp ≤ 310) (hu : un ≤ 100) (XB : (K w.params).In base) (TB : Top p loose mean mg mb base) (B : Below A₀ base [] h₀) (KX : (K w.params).In h₀) (T : Top p loose mean mg mb h₀)
    (F : Fr h₀ L s.heap (fun z => if z = Str.ofString "y" then some (.int Y ty) else if z = Str.ofString "x" then some (.int X tx) else if z = Str.ofString "kind" then some (.int 3 tkk) else if z = Str.ofString "i" then some (.int iv ti)
      else if z = Str.ofString "at" then some (.int (at_ : Int) ta) else if z = Str.ofString "waiting" then some (.ref wl) else if z = Str.ofString "row" then some (.ref R) else if z = Str.ofString "stream" then some (.ref y) else if z = Str.ofString "extent" then some (.int (rs.length : Nat) te)
      else if z = Str.ofString "script" then some (.ref sl) else mm z))
    (N : News h₀ L s.heap ((y, instObj 1075 e) :: (e, sdict w σ (ws.length : Nat) u1 (wo ws) u2) :: (σ.io, instObj 350 d) :: (d, bdict w β (at_ : Int) t) :: (β.ba, baObj (byteArr rs)) :: (R, PySem.W.listOf rvs.toArray rc) :: (wl, PySem.W.listOf wvs.toArray wc) :: own))
    (hown : ∀ p ∈ own, p.2.cls ≠ .type "dict") (ap : Ap y e σ.io d β.ba ((R, PySem.W.listOf rvs.toArray rc) :: (wl, PySem.W.listOf wvs.toArray wc) :: own))
    (hri : IntsAre rvs rs) (hrb : ∀ n ∈ rs, 0 ≤ n ∧ n < 256) (hrl : rs.length ≤ 14) (hrl2 : 2 ≤ rs.length) (hwi : IntsAre wvs ws) (hwb : ∀ n ∈ ws, 0 ≤ n ∧ n ≤ 1) (hwn : ws.length < 8) (hat : at_ ≤ rs.length + 1)
     :
    wpAny (model prog w) (ktrTop dp un gd lawRec.name lawRec.scope L a ccd [] []) (exec kindIf (envX lawRec.name lawRec.scope L a ccd [])) (Mid w h₀ L σ β y e d R sl te rs rvs rc own s) Ef s := by
  obtain ⟨ap1, ap2, ap3, ap4, ap5, ap6, ap7, ap8, ap9⟩ := ap
  have ao8 : ∀ p ∈ own, p.1 ≠ e := fun p hp => ap8 p (.tail _ (.tail _ hp))
  have ao9 : ∀ p ∈ own, p.1 ≠ d := fun p hp => ap9 p (.tail _ (.tail _ hp))
  have ar8 := ap8 _ (.head _)
  have ar9 := ap9 _ (.head _)
  have aw8 := ap8 _ (.tail _ (.head _))
  have aw9 := ap9 _ (.tail _ (.head _))
  clear ap8 ap9
  dsimp only at ar8 ar9 aw8 aw9
  replace ap1 := neN ap1
  replace ap2 := neN ap2
  replace ap3 := neN ap3
  replace ap4 := neN ap4
  replace ap5 := neN ap5
  replace ap6 := neN ap6
  replace ap7 := neN ap7
  replace ar8 := neN ar8
  replace ar9 := neN ar9
  replace aw8 := neN aw8
  replace aw9 := neN aw9
  have hdr : dp + 400 < recursionLimit := Nat.lt_of_le_of_lt (Nat.add_le_add_right hd 400) (by decide)
  have hur : un + 4000 < cLine := Nat.lt_of_le_of_lt (Nat.add_le_add_right hu 4000) (by decide)
  have hbs : (byteArr rs).size = rs.length := by simp [byteArr]
  have hbz : (byteArr rs).size ≤ 16777216 := by omega
  unfold kindIf loopTail bodyOf
  show wpAny _ _ (exec (Stmt.If _ _ _ _) _) _ _ _
  have hY0 := fmod_lo Y (n := (rs.length : Nat) + 2) (by omega)
  have hY1 := fmod_hi Y (n := (rs.length : Nat) + 2) (by omega)
  obtain ⟨n9, hn9⟩ := Int.eq_ofNat_of_zero_le hY0
  k_steps
  refine Stop.mk ?_
  k_dflt refine' sseekI ?B ?F ?X ?T ?hk ?hd ?hu ?h0 ?h1 ?N0 ?P1 ?P2 ?P3 ?P4 ?P5 ?ap ?_
  case F => k_asm
  case X => k_asm
  case T => k_asm
  case B => k_asm
  case hk => (first | assumption | rfl)
  case N0 => k_asm
  case P1 => k_upd
  case P2 => k_upd
  case P3 => k_upd
  case P4 => k_upd
  case P5 => k_upd
  case ap => (refine apOf (by k_asm) (by k_mem) (by k_mem) (by k_mem) (by k_mem) (by k_mem) ?_; (repeat refine List.forall_mem_cons.mpr ⟨⟨by k_mem, list_nd⟩, ?_⟩); (intro p hp; refine ⟨?_, hown p hp⟩; (repeat (first | exact hp | refine List.Mem.tail _ ?_))))
  case hd => (first | omega | ((try simp only [depth_deeper, units_deeper, depth_in1, units_in1]); (try dsimp only [ktrTop]); omega))
  case hu => (first | omega | ((try simp only [depth_deeper, units_deeper, depth_in1, units_in1]); (try dsimp only [ktrTop]); omega))
  case h0 => (first | omega | ((try simp only [depth_deeper, units_deeper, depth_in1, units_in1]); (try dsimp only [ktrTop]); omega))
  case h1 => (first | omega | ((try simp only [depth_deeper, units_deeper, depth_in1, units_in1]); (try dsimp only [ktrTop]); omega))
  k_whole
  intro h7 tk7 v3 v4 t9 F7 N7
  k_steps
  (rename Fr _ _ _ _ => F9)
  (rename News _ _ _ _ => N9)
  rw [hn9] at F9 N9
  exact ⟨rfl, _, _, _, _, _, _, [], [], 0, _, n9, rfl, F9, ⟨⟨_, rfl⟩, rfl, rfl, rfl, rfl, rfl, .nil, (fun _ h => nomatch h), (by decide), (by omega)⟩, news_sub N9 (by ((repeat refine sub_cons (by k_mem) ?_); (repeat first | exact sub_self | exact sub_nil | refine sub_up ?_)))⟩
theorem d_octet {σ : Sd} {β : Bd} {y e d R wl sl : Addr} {u1 u2 t ta ti te tkk tx ty : Tok} {rs ws : List Int} {rvs wvs : List Value} {wc rc at_ : Nat} {own : List (Addr × Obj)} {mm : Str → Option Value} {iv X Y : Int}
    (hd : dp ≤ 310) (hu : un ≤ 100) (XB : (K w.params).In base) (TB : Top p loose mean mg mb base) (B : Below A₀ base [] h₀) (KX : (K w.params).In h₀) (T : Top p loose mean mg mb h₀)
    (F : Fr h₀ L s.heap (fun z => if z = Str.ofString "y" then some (.int Y ty) else if z = Str.ofString "x" then some (.int X tx) else if z = Str.ofString "kind" then some (.int 4 tkk) else if z = Str.ofString "i" then some (.int iv ti)
      else if z = Str.ofString "at" then some (.int (at_ : Int) ta) else if z = Str.ofString "waiting" then some (.ref wl) else if z = Str.ofString "row" then some (.ref R) else if z = Str.ofString "stream" then some (.ref y) else if z = Str.ofString "extent" then some (.int (rs.length : Nat) te)
      else if z = Str.ofString "script" then some (.ref sl) else mm z))
    (N : News h₀ L s.heap ((y, instObj 1075 e) :: (e, sdict w σ (ws.length : Nat) u1 (wo ws) u2) :: (σ.io, instObj 350 d) :: (d, bdict w β (at_ : Int) t) :: (β.ba, baObj (byteArr rs)) :: (R, PySem.W.listOf rvs.toArray rc) :: (wl, PySem.W.listOf wvs.toArray wc) :: own))
    (hown : ∀ p ∈ own, p.2.cls ≠ .type "dict") (ap : Ap y e σ.io d β.ba ((R, PySem.W.listOf rvs.toArray rc) :: (wl, PySem.W.listOf wvs.toArray wc) :: own))
    (hri : IntsAre rvs rs) (hrb : ∀ n ∈ rs, 0 ≤ n ∧ n < 256) (hrl : rs.length ≤ 14) (hrl2 : 2 ≤ rs.length) (hwi : IntsAre wvs ws) (hwb : ∀ n ∈ ws, 0 ≤ n ∧ n ≤ 1) (hwn : ws.length < 8) (hat : at_ ≤ rs.length + 1)
    (hlt : at_ < rs.length) :
    wpAny (model prog w) (ktrTop dp un gd lawRec.name lawRec.scope L a ccd [] []) (exec kindIf (envX lawRec.name lawRec.scope L a ccd [])) (Mid w h₀ L σ β y e d R sl te rs rvs rc own s) Ef s := by
  obtain ⟨ap1, ap2, ap3, ap4, ap5, ap6, ap7, ap8, ap9⟩ := ap
  have ao8 : ∀ p ∈ own, p.1 ≠ e := fun p hp => ap8 p (.tail _ (.tail _ hp))
  have ao9 : ∀ p ∈ own, p.1 ≠ d := fun p hp => ap9 p (.tail _ (.tail _ hp))
  have ar8 := ap8 _ (.head _)
  have ar9 := ap9 _ (.head _)
  have aw8 := ap8 _ (.tail _ (.head _))
  have aw9 := ap9 _ (.tail _ (.head _))
  clear ap8 ap9
  dsimp only at ar8 ar9 aw8 aw9
  replace ap1 := neN ap1
  replace ap2 := neN ap2
  replace ap3 := neN ap3
  replace ap4 := neN ap4
  replace ap5 := neN ap5
  replace ap6 := neN ap6
  replace ap7 := neN ap7
  replace ar8 := neN ar8
  replace ar9 := neN ar9
  replace aw8 := neN aw8
  replace aw9 := neN aw9
  have hdr : dp + 400 < recursionLimit := Nat.lt_of_le_of_lt (Nat.add_le_add_right hd 400) (by decide)
  have hur : un + 4000 < cLine := Nat.lt_of_le_of_lt (Nat.add_le_add_right hu 4000) (by decide)
  have hbs : (byteArr rs).size = rs.length := by simp [byteArr]
  have hbz : (byteArr rs).size ≤ 16777216 := by omega
  unfold kindIf loopTail bodyOf
  show wpAny _ _ (exec (Stmt.If _ _ _ _) _) _ _ _
  have hin : (rdB (byteArr rs) at_ 1).size = 1 := by rw [rdB_size, hbs]; omega
  have hrp : rdP (byteArr rs).size at_ 1 = at_ + 1 := by rw [hbs]; unfold rdP; rw [if_neg (by omega)]; omega
  have hif := at_next hlt
  have hu1 := u1_val hrb hlt
  k_steps
  refine Stop.mk ?_
  k_dflt refine' ask_u1O (ks := []) (n := 0) ?B ?F ?X ?T ?XB ?TB ?hk ?hd ?hu ?hp ?hz ?hin ?N0 ?P1 ?P2 ?P3 ?P4 ?P5 ?ap ?_
  case F => k_asm
  case X => k_asm
  case T => k_asm
  case B => k_asm
  case XB => k_asm
  case TB => k_asm
  case hk => (first | assumption | rfl)
  case N0 => k_asm
  case P1 => k_upd
  case P2 => k_upd
  case P3 => k_upd
  case P4 => k_upd
  case P5 => k_upd
  case ap => (refine apOf (by k_asm) (by k_mem) (by k_mem) (by k_mem) (by k_mem) (by k_mem) ?_; (repeat refine List.forall_mem_cons.mpr ⟨⟨by k_mem, list_nd⟩, ?_⟩); (intro p hp; refine ⟨?_, hown p hp⟩; (repeat (first | exact hp | refine List.Mem.tail _ ?_))))
  case hz => assumption
  case hin => assumption
  case hd => (first | omega | ((try simp only [depth_deeper, units_deeper, depth_in1, units_in1]); (try dsimp only [ktrTop]); omega))
  case hu => (first | omega | ((try simp only [depth_deeper, units_deeper, depth_in1, units_in1]); (try dsimp only [ktrTop]); omega))
  case hp => (first | omega | ((try simp only [depth_deeper, units_deeper, depth_in1, units_in1]); (try dsimp only [ktrTop]); omega))
  k_whole
  intro h6 tk6 v1 v2 t2 t4 F6 N6
  k_steps
  · rename ¬ (_ : Int) = _ => hq
    exact absurd hu1 hq
  · (rename Fr _ _ _ _ => F9)
    (rename News _ _ _ _ => N9)
    rw [hif] at F9
    rw [hrp] at N9
    exact ⟨rfl, _, _, _, _, _, _, [], [], 0, _, at_ + 1, rfl, F9, ⟨⟨_, rfl⟩, rfl, rfl, rfl, rfl, rfl, .nil, (fun _ h => nomatch h), (by decide), (by omega)⟩, news_sub N9 (by ((repeat refine sub_cons (by k_mem) ?_); (repeat first | exact sub_self | exact sub_nil | refine sub_up ?_)))⟩
theorem d_none {σ : Sd} {β : Bd} {y e d R wl sl : Addr} {u1 u2 t ta ti te tkk tx ty : Tok} {rs ws : List Int} {rvs wvs : List Value} {wc rc at_ : Nat} {own : List (Addr × Obj)} {mm : Str → Option Value} {iv X Y : Int}
    (hd : dp ≤ 310) (hu : un ≤ 100) (XB : (K w.params).In base) (TB : Top p loose mean mg mb base) (B : Below A₀ base [] h₀) (KX : (K w.params).In h₀) (T : Top p loose mean mg mb h₀)
    (F : Fr h₀ L s.heap (fun z => if z = Str.ofString "y" then some (.int Y ty) else if z = Str.ofString "x" then some (.int X tx) else if z = Str.ofString "kind" then some (.int 4 tkk) else if z = Str.ofString "i" then some (.int iv ti)
      else if z = Str.ofString "at" then some (.int (at_ : Int) ta) else if z = Str.ofString "waiting" then some (.ref wl) else if z = Str.ofString "row" then some (.ref R) else if z = Str.ofString "stream" then some (.ref y) else if z = Str.ofString "extent" then some (.int (rs.length : Nat) te)
      else if z = Str.ofString "script" then some (.ref sl) else mm z))
    (N : News h₀ L s.heap ((y, instObj 1075 e) :: (e, sdict w σ (ws.length : Nat) u1 (wo ws) u2) :: (σ.io, instObj 350 d) :: (d, bdict w β (at_ : Int) t) :: (β.ba, baObj (byteArr rs)) :: (R, PySem.W.listOf rvs.toArray rc) :: (wl, PySem.W.listOf wvs.toArray wc) :: own))
    (hown : ∀ p ∈ own, p.2.cls ≠ .type "dict") (ap : Ap y e σ.io d β.ba ((R, PySem.W.listOf rvs.toArray rc) :: (wl, PySem.W.listOf wvs.toArray wc) :: own))
    (hri : IntsAre rvs rs) (hrb : ∀ n ∈ rs, 0 ≤ n ∧ n < 256) (hrl : rs.length ≤ 14) (hrl2 : 2 ≤ rs.length) (hwi : IntsAre wvs ws) (hwb : ∀ n ∈ ws, 0 ≤ n ∧ n ≤ 1) (hwn : ws.length < 8) (hat : at_ ≤ rs.length + 1)
    (hlt : rs.length ≤ at_) :
    wpAny (model prog w) (ktrTop dp un gd lawRec.name lawRec.scope L a ccd [] []) (exec kindIf (envX lawRec.name lawRec.scope L a ccd [])) (Mid w h₀ L σ β y e d R sl te rs rvs rc own s) Ef s := by
  obtain ⟨ap1, ap2, ap3, ap4, ap5, ap6, ap7, ap8, ap9⟩ := ap
  have ao8 : ∀ p ∈ own, p.1 ≠ e := fun p hp => ap8 p (.tail _ (.tail _ hp))
  have ao9 : ∀ p ∈ own, p.1 ≠ d := fun p hp => ap9 p (.tail _ (.tail _ hp))
  have ar8 := ap8 _ (.head _)
  have ar9 := ap9 _ (.head _)
  have aw8 := ap8 _ (.tail _ (.head _))
  have aw9 := ap9 _ (.tail _ (.head _))
  clear ap8 ap9
  dsimp only at ar8 ar9 aw8 aw9
  replace ap1 := neN ap1
  replace ap2 := neN ap2
  replace ap3 := neN ap3
  replace ap4 := neN ap4
  replace ap5 := neN ap5
  replace ap6 := neN ap6
  replace ap7 := neN ap7
  replace ar8 := neN ar8
  replace ar9 := neN ar9
  replace aw8 := neN aw8
  replace aw9 := neN aw9
  have hdr : dp + 400 < recursionLimit := Nat.lt_of_le_of_lt (Nat.add_le_add_right hd 400) (by decide)
  have hur : un + 4000 < cLine := Nat.lt_of_le_of_lt (Nat.add_le_add_right hu 4000) (by decide)
  have hbs : (byteArr rs).size = rs.length := by simp [byteArr]
  have hbz : (byteArr rs).size ≤ 16777216 := by omega
  unfold kindIf loopTail bodyOf
  show wpAny _ _ (exec (Stmt.If _ _ _ _) _) _ _ _
  have hin : (rdB (byteArr rs) at_ 1).size < 1 := by rw [rdB_size, hbs]; omega
  have hle : (rdB (byteArr rs) at_ 1).size = 0 := by rw [rdB_size, hbs]; omega
  have hrp : rdP (byteArr rs).size at_ 1 = at_ := by rw [hbs]; unfold rdP; rw [if_pos (by omega)]
  k_steps
  refine Stop.mk ?_
  k_dflt refine' short_spec ?B ?F ?X ?T ?hk ?hd ?hu ?h0 ?h1 ?h2 ?h3 ?N ?_
  case F => k_asm
  case X => k_asm
  case T => k_asm
  case B => k_asm
  case hk => (first | assumption | rfl)
  case N => k_asm
  case hd => (first | omega | ((try simp only [depth_deeper, units_deeper, depth_in1, units_in1]); (try dsimp only [ktrTop]); omega))
  case hu => (first | omega | ((try simp only [depth_deeper, units_deeper, depth_in1, units_in1]); (try dsimp only [ktrTop]); omega))
  case h0 => (first | omega | ((try simp only [depth_deeper, units_deeper, depth_in1, units_in1]); (try dsimp only [ktrTop]); omega))
  case h1 => (first | omega | ((try simp only [depth_deeper, units_deeper, depth_in1, units_in1]); (try dsimp only [ktrTop]); omega))
  case h2 => (first | omega | ((try simp only [depth_deeper, units_deeper, depth_in1, units_in1]); (try dsimp only [ktrTop]); omega))
  case h3 => (first | omega | ((try simp only [depth_deeper, units_deeper, depth_in1, units_in1]); (try dsimp only [ktrTop]); omega))
  k_whole
  intro h5 tk5 D5 t5 t6 F5 N5
  k_steps
  refine Stop.mk ?_
  k_dflt refine' ask_u1S (ks := []) (n := 0) ?B ?F ?X ?T ?XB ?TB ?hk ?hd ?hu ?hp ?hz ?hin ?N0 ?P1 ?P2 ?P3 ?P4 ?P5 ?ap ?_
  case F => k_asm
  case X => k_asm
  case T => k_asm
  case B => k_asm
  case XB => k_asm
  case TB => k_asm
  case hk => (first | assumption | rfl)
  case N0 => k_asm
  case P1 => k_upd
  case P2 => k_upd
  case P3 => k_upd
  case P4 => k_upd
  case P5 => k_upd
  case ap => (refine apOf (by k_asm) (by k_mem) (by k_mem) (by k_mem) (by k_mem) (by k_mem) ?_; (repeat refine List.forall_mem_cons.mpr ⟨⟨by k_mem, list_nd⟩, ?_⟩); (intro p hp; refine ⟨?_, hown p hp⟩; (repeat (first | exact hp | refine List.Mem.tail _ ?_))))
  case hz => assumption
  case hin => assumption
  case hd => (first | omega | ((try simp only [depth_deeper, units_deeper, depth_in1, units_in1]); (try dsimp only [ktrTop]); omega))
  case hu => (first | omega | ((try simp only [depth_deeper, units_deeper, depth_in1, units_in1]); (try dsimp only [ktrTop]); omega))
  case hp => (first | omega | ((try simp only [depth_deeper, units_deeper, depth_in1, units_in1]); (try dsimp only [ktrTop]); omega))
  k_whole
  intro h6 tk6 D7 v1 v2 t2 w1 w2 w3 w4 F6 N6
  k_steps
  refine Stop.mk ?_
  (rename News _ _ _ _ => N8)
  k_dflt refine' ne_same N8 (by k_mem) (by k_mem) (.cons (.str _ _ rfl) (.cons (.int _ _ rfl) (.cons (.int _ _ (congrArg (fun z : Nat => (z : Int)) hle)) (.cons (.str _ _ (by rw [hle]; rfl)) .nil)))) ?room ?_
  case room => (first | omega | ((try simp only [depth_deeper, units_deeper, depth_in1, units_in1]); (try dsimp only [ktrTop]); omega))
  k_whole
  k_steps
  (rename Fr _ _ _ _ => F9)
  (rename News _ _ _ _ => N9)
  rw [at_stay hlt] at F9
  rw [hrp] at N9
  exact ⟨rfl, _, _, _, _, _, _, [], [], 0, _, at_, rfl, F9, ⟨⟨_, rfl⟩, rfl, rfl, rfl, rfl, rfl, .nil, (fun _ h => nomatch h), (by decide), hat⟩, news_sub N9 (by ((repeat refine sub_cons (by k_mem) ?_); (repeat first | exact sub_self | exact sub_nil | refine sub_up ?_)))⟩
end
end Mine
end
section
open PySem PySem.W PySem.Calls PyProof.Rows PySem.Spec
set_option maxRecDepth 100000
set_option maxHeartbeats 8000000
namespace Mine
theorem resetEns {M : Model} {A : Around} {env : Env} {x : Str} {v : Value} {Q : Unit → Shared → Prop} {E : Value → Shared → Prop} {s : Shared} (h : wpAny M A (storeName env x v) Q E s) : wpAny M A (storeName env x v) Q E s := by
  w_top off
  k_with_none
  first
    | (walk1; fail)
    | exact h
local macro_rules | `(tactic| k_upd) => `(tactic| first | exact Pick.head | (refine' Pick.tail ?pp; (case pp => k_upd)))
local macro_rules | `(tactic| k_all) => `(tactic| assumption)
local macro_rules | `(tactic| k_room) => `(tactic| ktr_room)
local macro_rules | `(tactic| walk_at "call type:type") => `(tactic| refine call_type_of (PySem.W.typeIs_bytes _ _ _) (by decide +kernel) ?_)
local macro_rules | `(tactic| walk_at "call builtin:len") => `(tactic| (k_here; (with_reducible show wpAny _ _ (call (Value.builtin "len") [Value.ref _]) _ _ _); k_dflt (refine' len_baN ?N ?m ?z ?_; (case N => k_asm); (case m => k_mem); (case z => (first | assumption | exact Nat.le_trans (KBc.size_picked_le _ _ _) (by assumption))); k_whole); intro _ _))
local macro_rules | `(tactic| walk_at "call type:bytes") => `(tactic| (k_here; (with_reducible show wpAny _ _ (call (Value.type "bytes") [Value.ref _]) _ _ _); k_dflt (refine' bytes_baN ?N ?m ?z ?_; (case N => k_asm); (case m => k_mem); (case z => (first | assumption | exact Nat.le_trans (KBc.size_picked_le _ _ _) (by assumption))); k_whole); intro _ _))
local macro_rules | `(tactic| walk_at "subscriptTail") => `(tactic| (k_here; (with_reducible show wpAny _ _ (subscriptTail _ (Expr.Slice _ _ none _) (Value.ref _) (Value.ref _)) _ _ _); (with_reducible rename Fr _ _ _ _ => F'); (with_reducible rename News _ _ _ _ => N'); (refine cut_baN (s := ⟨_, _, _, _, _⟩) F' N' (by k_mem) (by constructor) (by constructor) (by (first | assumption | exact Nat.le_trans (KBc.size_picked_le _ _ _) (by assumption))) ?_); intro _ _ _ _ _))
local macro_rules | `(tactic| walk_at "call builtin:len") => `(tactic| (k_here; (with_reducible show wpAny _ _ (call (Value.builtin "len") [Value.bytes (rdB _ _ _) _]) _ _ _); refine len_bytes (Nat.le_trans rdB_le (by omega)) ?_))
local macro_rules | `(tactic| walk_at "call builtin:_struct.unpack") => `(tactic| (k_here; k_dflt (refine' unpackBN ?F ?N ?hb ?_; (case F => k_asm); (case N => k_asm); (case hb => assumption); k_whole); intro _ _ _ _ F' N' l1; (try k_lt l1)))
local macro_rules | `(tactic| walk_at "call type:enumerate") => `(tactic| (k_here; (with_reducible show wpAny _ _ (call (Value.type _) [Value.bytes _ _]) _ _ _); k_dflt (refine' call_enumB rfl ?hk ?F ?N ?_; (case hk => assumption); (case F => k_asm); (case N => k_asm); k_whole); intro _ _ F' N' S'))
local macro_rules | `(tactic| walk_at "pyReprObj bytes") => `(tactic| (k_here; (refine repr_bytes (by first | assumption | exact Nat.le_trans rdB_le (by omega)) (by first | assumption | exact literal_le (by first | omega | exact Nat.le_trans rdB_le (by omega))) ?_)))
local macro_rules | `(tactic| walk_at "call ref") => `(tactic| (k_here; k_dflt (first
  | ((with_reducible show wpAny _ _ (call (Value.ref 250) _) _ _ _); refine' tell_pk ?B ?F ?X ?T ?hk ?hd ?hu ?N ?P1 ?P2 ?_; (case F => k_asm); (case X => k_asm); (case T => k_asm); (case B => k_asm); (case hk => (first | assumption | rfl)); (case N => k_asm); (case hd => (first | omega | ((try simp only [depth_deeper, units_deeper, depth_in1, units_in1]); (try dsimp only [ktrTop]); omega))); (case hu => (first | omega | ((try simp only [depth_deeper, units_deeper, depth_in1, units_in1]); (try dsimp only [ktrTop]); omega))); (case P1 => k_upd); (case P2 => k_upd); k_whole; intro _ _ _ F' N')
  | ((with_reducible show wpAny _ _ (call (Value.ref 258) _) _ _ _); refine' end_pk ?B ?F ?X ?T ?hk ?hd ?hu ?hz ?N ?P1 ?P2 ?P3 ?n1 ?n2 ?n3 ?_; (case F => k_asm); (case X => k_asm); (case T => k_asm); (case B => k_asm); (case hk => (first | assumption | rfl)); (case N => k_asm); (case hd => (first | omega | ((try simp only [depth_deeper, units_deeper, depth_in1, units_in1]); (try dsimp only [ktrTop]); omega))); (case hu => (first | omega | ((try simp only [depth_deeper, units_deeper, depth_in1, units_in1]); (try dsimp only [ktrTop]); omega))); (case hz => assumption); (case P1 => k_upd); (case P2 => k_upd); (case P3 => k_upd); (case n1 => (first | assumption | k_ne)); (case n2 => (first | assumption | k_ne)); (case n3 => k_all); k_whole; intro _ _ _ _ F' N')
  | ((with_reducible show wpAny _ _ (call (Value.ref 258) _) _ _ _); refine' seek_pk ?B ?F ?X ?T ?hk ?hd ?hu ?h0 ?h1 ?N ?P1 ?P2 ?n1 ?n3 ?_; (case F => k_asm); (case X => k_asm); (case T => k_asm); (case B => k_asm); (case hk => (first | assumption | rfl)); (case N => k_asm); (case hd => (first | omega | ((try simp only [depth_deeper, units_deeper, depth_in1, units_in1]); (try dsimp only [ktrTop]); omega))); (case hu => (first | omega | ((try simp only [depth_deeper, units_deeper, depth_in1, units_in1]); (try dsimp only [ktrTop]); omega))); (case h0 => (first | omega | ((try simp only [depth_deeper, units_deeper, depth_in1, units_in1]); (try dsimp only [ktrTop]); omega))); (case h1 => (first | omega | ((try simp only [depth_deeper, units_deeper, depth_in1, units_in1]); (try dsimp only [ktrTop]); omega))); (case P1 => k_upd); (case P2 => k_upd); (case n1 => (first | assumption | k_ne)); (case n3 => k_all); k_whole; intro _ _ _ _ F' N')
  | ((with_reducible show wpAny _ _ (call (Value.ref 274) _) _ _ _); refine' read_pk ?B ?F ?X ?T ?hk ?hd ?hu ?h1 ?hp ?hz ?N ?P1 ?P2 ?P3 ?n1 ?n2 ?n3 ?_; (case F => k_asm); (case X => k_asm); (case T => k_asm); (case B => k_asm); (case hk => (first | assumption | rfl)); (case N => k_asm); (case hd => (first | omega | ((try simp only [depth_deeper, units_deeper, depth_in1, units_in1]); (try dsimp only [ktrTop]); omega))); (case hu => (first | omega | ((try simp only [depth_deeper, units_deeper, depth_in1, units_in1]); (try dsimp only [ktrTop]); omega))); (case h1 => (first | omega | ((try simp only [depth_deeper, units_deeper, depth_in1, units_in1]); (try dsimp only [ktrTop]); omega))); (case hp => (first | omega | ((try simp only [depth_deeper, units_deeper, depth_in1, units_in1]); (try dsimp only [ktrTop]); omega))); (case hz => assumption); (case P1 => k_upd); (case P2 => k_upd); (case P3 => k_upd); (case n1 => (first | assumption | k_ne)); (case n2 => (first | assumption | k_ne)); (case n3 => k_all); k_whole; intro _ _ _ _ F' N')
  | ((with_reducible show wpAny _ _ (call (Value.ref 274) _) _ _ _); refine' full_pk ?B ?F ?X ?T ?hk ?hd ?hu ?hp ?hz ?N ?P1 ?P2 ?P3 ?n1 ?n2 ?n3 ?_; (case F => k_asm); (case X => k_asm); (case T => k_asm); (case B => k_asm); (case hk => (first | assumption | rfl)); (case N => k_asm); (case hd => (first | omega | ((try simp only [depth_deeper, units_deeper, depth_in1, units_in1]); (try dsimp only [ktrTop]); omega))); (case hu => (first | omega | ((try simp only [depth_deeper, units_deeper, depth_in1, units_in1]); (try dsimp only [ktrTop]); omega))); (case hp => (first | omega | ((try simp only [depth_deeper, units_deeper, depth_in1, units_in1]); (try dsimp only [ktrTop]); omega))); (case hz => assumption); (case P1 => k_upd); (case P2 => k_upd); (case P3 => k_upd); (case n1 => (first | assumption | k_ne)); (case n2 => (first | assumption | k_ne)); (case n3 => k_all); k_whole; intro _ _ _ _ F' N'))))
section
variable {M : Model} {A : Around} {env : Env} {E : Value → Shared → Prop} {s : Shared}
theorem wpAny_execs_app {Q : Flow → Shared → Prop} {l2 : List Stmt} (l1 : List Stmt)
    (h : wpAny M A (execs l1 env) (fun f s' => match f with | .next => wpAny M A (execs l2 env) Q E s' | f => Q f s') E s) : wpAny M A (execs (l1 ++ l2) env) Q E s := by
  intro Γ p hΓ
  replace h := h Γ p hΓ
  induction l1 generalizing p s with
  | nil =>
    rw [execs_nil] at h
    exact h Γ p hΓ
  | cons st r ih =>
    rw [List.cons_append, execs_cons, Sem.wp_bind']
    rw [execs_cons, Sem.wp_bind'] at h
    refine Sem.wp_mono M Γ _ (fun f p' s' h' => ?_) (fun _ _ _ h' => h') _ _ h
    cases f with
    | next => exact ih _ h'
    | _ => exact h'
end
def elseOf : Stmt → List Stmt | .If _ _ o _ => o | _ => []
def thenOf : Stmt → List Stmt | .If _ b _ _ => b | _ => []
def ensBody : List Stmt := thenOf ((elseOf kindIf).headD (.Pass default))
def Has (m : Str → Option Value) (l : List (Str × Value)) : Prop := ∀ p ∈ l, m p.1 = some p.2
theorem has_map {m : Str → Option Value} : ∀ {l : List (Str × Value)}, Has m l → m = l.foldr (fun p m z => if z = p.1 then some p.2 else m z) m
  | [], _ => rfl
  | p :: r, h => by
    have ih := has_map (l := r) fun q hq => h q (List.mem_cons_of_mem _ hq)
    rw [List.foldr_cons, ← ih]
    funext z
    by_cases hz : z = p.1
    · rw [if_pos hz, hz]; exact h p (List.mem_cons_self ..)
    · rw [if_neg hz]
section
variable {w : World} {p : Program} {loose : List Str} {mean : ExcName → Option Value} {mg mb : Str → Option Value} {dp un : Nat} {gd : Option (List Code)} {a : Addr} {ccd : Value} {A₀ : Around} {base h₀ : Heap} {L : Addr} {s : Shared} {Qf : Flow → Shared → Prop} {Ef : Value → Shared → Prop}
theorem isl {h₀ h : Heap} {L a : Addr} {vs : List Value} {c : Nat} {news : List (Addr × Obj)} (N : News h₀ L h news) (hm : (a, PySem.W.listOf vs.toArray c) ∈ news) : h.IsList a vs.toArray := ⟨_, (N _ hm).1, rfl, c, rfl⟩
theorem slice_take {l : List Int} {i m : Nat} : (l.drop i).take (min (i + m) l.length - i) = (l.drop i).take m := by
  rcases Nat.le_total (i + m) l.length with h | h
  · rw [Nat.min_eq_left h, Nat.add_sub_cancel_left]
  · rw [Nat.min_eq_right h, List.take_of_length_le (by simp), List.take_of_length_le (by simp; omega)]
theorem flat_one {z : Int} {k : Nat} : (List.replicate k [z]).flatten = List.replicate k z := by
  induction k with
  | zero => rfl
  | succ k ih => rw [List.replicate_succ, List.flatten_cons, ih, List.replicate_succ]; rfl
local macro_rules | `(tactic| walk_at "binaryOp Add ref ref") => `(tactic| (k_here; refine stop_here ?_))
theorem ens_A {σ : Sd} {β : Bd} {y e d R wl sl : Addr} {u1 u2 t ta ti te tkk tx ty : Tok} {rs ws : List Int} {rvs wvs : List Value} {wc rc at_ : Nat} {own : List (Addr × Obj)} {mm : Str → Option Value} {iv X Y : Int}
    (hd : dp ≤ 310) (hu : un ≤ 100) (XB : (K w.params).In base) (TB : Top p loose mean mg mb base) (B : Below A₀ base [] h₀) (KX : (K w.params).In h₀) (T : Top p loose mean mg mb h₀)
    (F : Fr h₀ L s.heap (fun z => if z = Str.ofString "y" then some (.int Y ty) else if z = Str.ofString "x" then some (.int X tx) else if z = Str.ofString "kind" then some (.int 2 tkk) else if z = Str.ofString "i" then some (.int iv ti)
      else if z = Str.ofString "at" then some (.int (at_ : Int) ta) else if z = Str.ofString "waiting" then some (.ref wl) else if z = Str.ofString "row" then some (.ref R) else if z = Str.ofString "stream" then some (.ref y) else if z = Str.ofString "extent" then some (.int (rs.length : Nat) te)
      else if z = Str.ofString "script" then some (.ref sl) else mm z))
    (N : News h₀ L s.heap ((y, instObj 1075 e) :: (e, sdict w σ (ws.length : Nat) u1 (wo ws) u2) :: (σ.io, instObj 350 d) :: (d, bdict w β (at_ : Int) t) :: (β.ba, baObj (byteArr rs)) :: (R, PySem.W.listOf rvs.toArray rc) :: (wl, PySem.W.listOf wvs.toArray wc) :: own))
    (hown : ∀ p ∈ own, p.2.cls ≠ .type "dict") (ap : Ap y e σ.io d β.ba ((R, PySem.W.listOf rvs.toArray rc) :: (wl, PySem.W.listOf wvs.toArray wc) :: own))
    (hri : IntsAre rvs rs) (hrb : ∀ n ∈ rs, 0 ≤ n ∧ n < 256) (hrl : rs.length ≤ 14) (hrl2 : 2 ≤ rs.length) (hwi : IntsAre wvs ws) (hwb : ∀ n ∈ ws, 0 ≤ n ∧ n ≤ 1) (hwn : ws.length < 8) (hat : at_ ≤ rs.length + 1)
    (ret : ∀ h' tk m' wl2 (wvs2 : List Value) ms wc2 tm, Fr h₀ L h' m' → Has m' [(Str.ofString "wanted", .ref wl2), (Str.ofString "many", .int ((ms.length : Nat) : Int) tm), (Str.ofString "y", .int Y ty), (Str.ofString "x", .int X tx), (Str.ofString "at", .int (at_ : Int) ta), (Str.ofString "waiting", .ref wl), (Str.ofString "row", .ref R), (Str.ofString "stream", .ref y), (Str.ofString "extent", .int (rs.length : Nat) te), (Str.ofString "script", .ref sl)] → News h₀ L h' ((wl2, PySem.W.listOf wvs2.toArray wc2) :: (y, instObj 1075 e) :: (e, sdict w σ (ws.length : Nat) u1 (wo ws) u2) :: (σ.io, instObj 350 d) :: (d, bdict w β (at_ : Int) t) :: (β.ba, baObj (byteArr rs)) :: (R, PySem.W.listOf rvs.toArray rc) :: (wl, PySem.W.listOf wvs.toArray wc) :: own) → IntsAre wvs2 ms → (∀ k ∈ ms, 0 ≤ k ∧ k < 256) → 1 ≤ ms.length → ms.length ≤ 4 → (∀ p ∈ (y, instObj 1075 e) :: (e, sdict w σ (ws.length : Nat) u1 (wo ws) u2) :: (σ.io, instObj 350 d) :: (d, bdict w β (at_ : Int) t) :: (β.ba, baObj (byteArr rs)) :: (R, PySem.W.listOf rvs.toArray rc) :: (wl, PySem.W.listOf wvs.toArray wc) :: own, p.1 < wl2) → Qf .next { s with heap := h', toks := tk }) :
    wpAny (model prog w) (ktrTop dp un gd lawRec.name lawRec.scope L a ccd [] []) (execs (ensBody.take 3) (envX lawRec.name lawRec.scope L a ccd [])) Qf Ef s := by
  obtain ⟨ap1, ap2, ap3, ap4, ap5, ap6, ap7, ap8, ap9⟩ := ap
  have ao8 : ∀ p ∈ own, p.1 ≠ e := fun p hp => ap8 p (.tail _ (.tail _ hp))
  have ao9 : ∀ p ∈ own, p.1 ≠ d := fun p hp => ap9 p (.tail _ (.tail _ hp))
  have ar8 := ap8 _ (.head _)
  have ar9 := ap9 _ (.head _)
  have aw8 := ap8 _ (.tail _ (.head _))
  have aw9 := ap9 _ (.tail _ (.head _))
  clear ap8 ap9
  dsimp only at ar8 ar9 aw8 aw9
  replace ap1 := neN ap1
  replace ap2 := neN ap2
  replace ap3 := neN ap3
  replace ap4 := neN ap4
  replace ap5 := neN ap5
  replace ap6 := neN ap6
  replace ap7 := neN ap7
  replace ar8 := neN ar8
  replace ar9 := neN ar9
  replace aw8 := neN aw8
  replace aw9 := neN aw9
  have hdr : dp + 400 < recursionLimit := Nat.lt_of_le_of_lt (Nat.add_le_add_right hd 400) (by decide)
  have hur : un + 4000 < cLine := Nat.lt_of_le_of_lt (Nat.add_le_add_right hu 4000) (by decide)
  have hbs : (byteArr rs).size = rs.length := by simp [byteArr]
  have hbz : (byteArr rs).size ≤ 16777216 := by omega
  have hx0 := fmod_lo X (n := 4) (by decide)
  have hx1 := fmod_hi X (n := 4) (by decide)
  have hz0 := fmod_lo Y (n := 256) (by decide)
  have hz1 := fmod_hi Y (n := 256) (by decide)
  obtain ⟨many, hmany⟩ : ∃ n : Nat, 1 + X.fmod 4 = (n : Int) := ⟨(1 + X.fmod 4).toNat, by omega⟩
  have hm1 : 1 ≤ many ∧ many ≤ 4 := by omega
  k_steps
  refine Stop.mk ?_
  (rename IntsAre _ (List.flatten _) => hI2)
  (rename IntsAre _ (List.take _ _) => hI1)
  (rename News _ _ _ _ => N8)
  (rename Fr _ _ _ _ => F8)
  rw [hmany, show ((at_ : Int) + (many : Int)).toNat = at_ + many by omega, show (at_ : Int).toNat = at_ by omega, slice_take] at hI1
  rw [hmany, show ((at_ : Int) + (many : Int)).toNat = at_ + many by omega, show (at_ : Int).toNat = at_ by omega, slice_take] at hI2 N8
  rw [flat_one] at hI2
  have hthl : ((rs.drop at_).take many).length ≤ many := by rw [List.length_take]; omega
  have hthb : ∀ k ∈ (rs.drop at_).take many, 0 ≤ k ∧ k < 256 := fun k hk => hrb k (List.mem_of_mem_drop (List.mem_of_mem_take hk))
  generalize hth : (rs.drop at_).take many = th at hI1 hI2 N8 hthl hthb
  have hpl : ((many : Int) - (th.length : Int)).toNat = many - th.length := by omega
  rw [hpl] at hI2 N8
  k_dflt refine' kmk_add_ints F8 N8 ?a ?b hI1 hI2 ?_ ?z
  case a => exact isl N8 (by k_mem)
  case b => exact isl N8 (by k_mem)
  case z => rw [List.length_replicate, sizeLine_eq]; omega
  k_whole
  intro D9 us9 h9 F9 N9 l9 I9
  have hmsl : (th ++ List.replicate (many - th.length) (Y.fmod 256)).length = many := by rw [List.length_append, List.length_replicate]; omega
  have hmsb : ∀ k ∈ th ++ List.replicate (many - th.length) (Y.fmod 256), 0 ≤ k ∧ k < 256 := by
    intro k hk
    rcases List.mem_append.mp hk with h | h
    · exact hthb k h
    · rw [List.eq_of_mem_replicate h]; exact ⟨hz0, hz1⟩
  generalize hms : th ++ List.replicate (many - th.length) (Y.fmod 256) = ms at I9 hmsl hmsb
  replace N9 := news_sub (r := (D9, PySem.W.listOf us9.toArray 0) :: (y, instObj 1075 e) :: (e, sdict w σ (ws.length : Nat) u1 (wo ws) u2) :: (σ.io, instObj 350 d) :: (d, bdict w β (at_ : Int) t) :: (β.ba, baObj (byteArr rs)) :: (R, PySem.W.listOf rvs.toArray rc) :: (wl, PySem.W.listOf wvs.toArray wc) :: own) N9 (by ((repeat refine sub_cons (by k_mem) ?_); (repeat first | exact sub_self | exact sub_nil | refine sub_up ?_)))
  clear N8 F8 hI1 hI2
  have hap9 := fun p hp => l9 p (.tail _ (.tail _ (.tail _ hp)))
  k_lt l9
  k_steps
  show wpAny _ _ (execs [] _) _ _ _
  k_steps
  (rename Fr _ _ _ _ => FX)
  (rename News _ _ _ _ => NX)
  subst hmsl
  rw [hmany] at FX
  exact ret _ _ _ _ _ _ _ _ FX (List.forall_mem_cons.mpr ⟨rfl, (List.forall_mem_cons.mpr ⟨rfl, (List.forall_mem_cons.mpr ⟨rfl, (List.forall_mem_cons.mpr ⟨rfl, (List.forall_mem_cons.mpr ⟨rfl, (List.forall_mem_cons.mpr ⟨rfl, (List.forall_mem_cons.mpr ⟨rfl, (List.forall_mem_cons.mpr ⟨rfl, (List.forall_mem_cons.mpr ⟨rfl, (List.forall_mem_cons.mpr ⟨rfl, (fun _ h => nomatch h)⟩)⟩)⟩)⟩)⟩)⟩)⟩)⟩)⟩)⟩) NX I9 hmsb (by omega) (by omega) hap9
end
end Mine
end
section
open PySem PySem.W PySem.Calls PyProof.Rows PySem.Spec
set_option maxRecDepth 100000
set_option maxHeartbeats 8000000
namespace Mine
theorem resetEnsB {M : Model} {A : Around} {env : Env} {x : Str} {v : Value} {Q : Unit → Shared → Prop} {E : Value → Shared → Prop} {s : Shared} (h : wpAny M A (storeName env x v) Q E s) : wpAny M A (storeName env x v) Q E s := by
  w_top off
  k_with_none
  first
    | (walk1; fail)
    | exact h
local macro_rules | `(tactic| k_upd) => `(tactic| first | exact Pick.head | (refine' Pick.tail ?pp; (case pp => k_upd)))
local macro_rules | `(tactic| k_all) => `(tactic| assumption)
local macro_rules | `(tactic| k_room) => `(tactic| ktr_room)
local macro_rules | `(tactic| walk_at "call type:type") => `(tactic| refine call_type_of (PySem.W.typeIs_bytes _ _ _) (by decide +kernel) ?_)
local macro_rules | `(tactic| walk_at "call builtin:len") => `(tactic| (k_here; (with_reducible show wpAny _ _ (call (Value.builtin "len") [Value.ref _]) _ _ _); k_dflt (refine' len_baN ?N ?m ?z ?_; (case N => k_asm); (case m => k_mem); (case z => (first | assumption | exact Nat.le_trans (KBc.size_picked_le _ _ _) (by assumption))); k_whole); intro _ _))
local macro_rules | `(tactic| walk_at "call type:bytes") => `(tactic| (k_here; (with_reducible show wpAny _ _ (call (Value.type "bytes") [Value.ref _]) _ _ _); k_dflt (refine' bytes_baN ?N ?m ?z ?_; (case N => k_asm); (case m => k_mem); (case z => (first | assumption | exact Nat.le_trans (KBc.size_picked_le _ _ _) (by assumption))); k_whole); intro _ _))
local macro_rules | `(tactic| walk_at "subscriptTail") => `(tactic| (k_here; (with_reducible show wpAny _ _ (subscriptTail _ (Expr.Slice _ _ none _) (Value.ref _) (Value.ref _)) _ _ _); (with_reducible rename Fr _ _ _ _ => F'); (with_reducible rename News _ _ _ _ => N'); (refine cut_baN (s := ⟨_, _, _, _, _⟩) F' N' (by k_mem) (by constructor) (by constructor) (by (first | assumption | exact Nat.le_trans (KBc.size_picked_le _ _ _) (by assumption))) ?_); intro _ _ _ _ _))
local macro_rules | `(tactic| walk_at "call builtin:len") => `(tactic| (k_here; (with_reducible show wpAny _ _ (call (Value.builtin "len") [Value.bytes (rdB _ _ _) _]) _ _ _); refine len_bytes (Nat.le_trans rdB_le (by omega)) ?_))
local macro_rules | `(tactic| walk_at "call builtin:_struct.unpack") => `(tactic| (k_here; k_dflt (refine' unpackBN ?F ?N ?hb ?_; (case F => k_asm); (case N => k_asm); (case hb => assumption); k_whole); intro _ _ _ _ F' N' l1; (try k_lt l1)))
local macro_rules | `(tactic| walk_at "call type:enumerate") => `(tactic| (k_here; (with_reducible show wpAny _ _ (call (Value.type _) [Value.bytes _ _]) _ _ _); k_dflt (refine' call_enumB rfl ?hk ?F ?N ?_; (case hk => assumption); (case F => k_asm); (case N => k_asm); k_whole); intro _ _ F' N' S'))
local macro_rules | `(tactic| walk_at "pyReprObj bytes") => `(tactic| (k_here; (refine repr_bytes (by first | assumption | exact Nat.le_trans rdB_le (by omega)) (by first | assumption | exact literal_le (by first | omega | exact Nat.le_trans rdB_le (by omega))) ?_)))
local macro_rules | `(tactic| walk_at "call ref") => `(tactic| (k_here; k_dflt (first
  | ((with_reducible show wpAny _ _ (call (Value.ref 250) _) _ _ _); refine' tell_pk ?B ?F ?X ?T ?hk ?hd ?hu ?N ?P1 ?P2 ?_; (case F => k_asm); (case X => k_asm); (case T => k_asm); (case B => k_asm); (case hk => (first | assumption | rfl)); (case N => k_asm); (case hd => (first | omega | ((try simp only [depth_deeper, units_deeper, depth_in1, units_in1]); (try dsimp only [ktrTop]); omega))); (case hu => (first | omega | ((try simp only [depth_deeper, units_deeper, depth_in1, units_in1]); (try dsimp only [ktrTop]); omega))); (case P1 => k_upd); (case P2 => k_upd); k_whole; intro _ _ _ F' N')
  | ((with_reducible show wpAny _ _ (call (Value.ref 258) _) _ _ _); refine' end_pk ?B ?F ?X ?T ?hk ?hd ?hu ?hz ?N ?P1 ?P2 ?P3 ?n1 ?n2 ?n3 ?_; (case F => k_asm); (case X => k_asm); (case T => k_asm); (case B => k_asm); (case hk => (first | assumption | rfl)); (case N => k_asm); (case hd => (first | omega | ((try simp only [depth_deeper, units_deeper, depth_in1, units_in1]); (try dsimp only [ktrTop]); omega))); (case hu => (first | omega | ((try simp only [depth_deeper, units_deeper, depth_in1, units_in1]); (try dsimp only [ktrTop]); omega))); (case hz => assumption); (case P1 => k_upd); (case P2 => k_upd); (case P3 => k_upd); (case n1 => (first | assumption | k_ne)); (case n2 => (first | assumption | k_ne)); (case n3 => k_all); k_whole; intro _ _ _ _ F' N')
  | ((with_reducible show wpAny _ _ (call (Value.ref 258) _) _ _ _); refine' seek_pk ?B ?F ?X ?T ?hk ?hd ?hu ?h0 ?h1 ?N ?P1 ?P2 ?n1 ?n3 ?_; (case F => k_asm); (case X => k_asm); (case T => k_asm); (case B => k_asm); (case hk => (first | assumption | rfl)); (case N => k_asm); (case hd => (first | omega | ((try simp only [depth_deeper, units_deeper, depth_in1, units_in1]); (try dsimp only [ktrTop]); omega))); (case hu => (first | omega | ((try simp only [depth_deeper, units_deeper, depth_in1, units_in1]); (try dsimp only [ktrTop]); omega))); (case h0 => (first | omega | ((try simp only [depth_deeper, units_deeper, depth_in1, units_in1]); (try dsimp only [ktrTop]); omega))); (case h1 => (first | omega | ((try simp only [depth_deeper, units_deeper, depth_in1, units_in1]); (try dsimp only [ktrTop]); omega))); (case P1 => k_upd); (case P2 => k_upd); (case n1 => (first | assumption | k_ne)); (case n3 => k_all); k_whole; intro _ _ _ _ F' N')
  | ((with_reducible show wpAny _ _ (call (Value.ref 274) _) _ _ _); refine' read_pk ?B ?F ?X ?T ?hk ?hd ?hu ?h1 ?hp ?hz ?N ?P1 ?P2 ?P3 ?n1 ?n2 ?n3 ?_; (case F => k_asm); (case X => k_asm); (case T => k_asm); (case B => k_asm); (case hk => (first | assumption | rfl)); (case N => k_asm); (case hd => (first | omega | ((try simp only [depth_deeper, units_deeper, depth_in1, units_in1]); (try dsimp only [ktrTop]); omega))); (case hu => (first | omega | ((try simp only [depth_deeper, units_deeper, depth_in1, units_in1]); (try dsimp only [ktrTop]); omega))); (case h1 => (first | omega | ((try simp only [depth_deeper, units_deeper, depth_in1, units_in1]); (try dsimp only [ktrTop]); omega))); (case hp => (first | omega | ((try simp only [depth_deeper, units_deeper, depth_in1, units_in1]); (try dsimp only [ktrTop]); omega))); (case hz => assumption); (case P1 => k_upd); (case P2 => k_upd); (case P3 => k_upd); (case n1 => (first | assumption | k_ne)); (case n2 => (first | assumption | k_ne)); (case n3 => k_all); k_whole; intro _ _ _ _ F' N')
  | ((with_reducible show wpAny _ _ (call (Value.ref 274) _) _ _ _); refine' full_pk ?B ?F ?X ?T ?hk ?hd ?hu ?hp ?hz ?N ?P1 ?P2 ?P3 ?n1 ?n2 ?n3 ?_; (case F => k_asm); (case X => k_asm); (case T => k_asm); (case B => k_asm); (case hk => (first | assumption | rfl)); (case N => k_asm); (case hd => (first | omega | ((try simp only [depth_deeper, units_deeper, depth_in1, units_in1]); (try dsimp only [ktrTop]); omega))); (case hu => (first | omega | ((try simp only [depth_deeper, units_deeper, depth_in1, units_in1]); (try dsimp only [ktrTop]); omega))); (case hp => (first | omega | ((try simp only [depth_deeper, units_deeper, depth_in1, units_in1]); (try dsimp only [ktrTop]); omega))); (case hz => assumption); (case P1 => k_upd); (case P2 => k_upd); (case P3 => k_upd); (case n1 => (first | assumption | k_ne)); (case n2 => (first | assumption | k_ne)); (case n3 => k_all); k_whole; intro _ _ _ _ F' N'))))
section
variable {w : World} {p : Program} {loose : List Str} {mean : ExcName → Option Value} {mg mb : Str → Option Value} {dp un : Nat} {gd : Option (List Code)} {a : Addr} {ccd : Value} {A₀ : Around} {base h₀ : Heap} {L : Addr} {s : Shared} {Qf : Flow → Shared → Prop} {Ef : Value → Shared → Prop}
local macro_rules | `(tactic| walk_at "setItem ref int") => `(tactic| (k_here; refine stop_here ?_))
local macro_rules | `(tactic| walk_at "binaryOp Add ref ref") => `(tactic| (k_here; refine stop_here ?_))
def if1 : Stmt := (ensBody.drop 3).headD (.Pass default)
def if2 : Stmt := (ensBody.drop 4).headD (.Pass default)
theorem ens_set {σ : Sd} {β : Bd} {y e d R wl sl : Addr} {u1 u2 t ta te tx ty : Tok} {rs ws : List Int} {rvs wvs : List Value} {wc rc at_ : Nat} {wl2 : Addr} {wvs2 : List Value} {ms : List Int} {wc2 : Nat} {tm : Tok} {own : List (Addr × Obj)} {mm : Str → Option Value} {X Y : Int}
    (hd : dp ≤ 310) (hu : un ≤ 100) (XB : (K w.params).In base) (TB : Top p loose mean mg mb base) (B : Below A₀ base [] h₀) (KX : (K w.params).In h₀) (T : Top p loose mean mg mb h₀)
    (F : Fr h₀ L s.heap (fun z => if z = Str.ofString "wanted" then some (.ref wl2) else if z = Str.ofString "many" then some (.int ((ms.length : Nat) : Int) tm) else if z = Str.ofString "y" then some (.int Y ty) else if z = Str.ofString "x" then some (.int X tx)
      else if z = Str.ofString "at" then some (.int (at_ : Int) ta) else if z = Str.ofString "waiting" then some (.ref wl) else if z = Str.ofString "row" then some (.ref R) else if z = Str.ofString "stream" then some (.ref y) else if z = Str.ofString "extent" then some (.int (rs.length : Nat) te)
      else if z = Str.ofString "script" then some (.ref sl) else mm z))
    (N : News h₀ L s.heap ((wl2, PySem.W.listOf wvs2.toArray wc2) :: (y, instObj 1075 e) :: (e, sdict w σ (ws.length : Nat) u1 (wo ws) u2) :: (σ.io, instObj 350 d) :: (d, bdict w β (at_ : Int) t) :: (β.ba, baObj (byteArr rs)) :: (R, PySem.W.listOf rvs.toArray rc) :: (wl, PySem.W.listOf wvs.toArray wc) :: own)) (hwi2 : IntsAre wvs2 ms) (hmb : ∀ n ∈ ms, 0 ≤ n ∧ n < 256)
    (hown : ∀ p ∈ own, p.2.cls ≠ .type "dict")
    (ap : Ap y e σ.io d β.ba ((R, PySem.W.listOf rvs.toArray rc) :: (wl, PySem.W.listOf wvs.toArray wc) :: own))
    (hri : IntsAre rvs rs) (hrb : ∀ n ∈ rs, 0 ≤ n ∧ n < 256) (hrl : rs.length ≤ 14) (hrl2 : 2 ≤ rs.length) (hwi : IntsAre wvs ws) (hwb : ∀ n ∈ ws, 0 ≤ n ∧ n ≤ 1) (hwn : ws.length < 8) (hat : at_ ≤ rs.length + 1) (hap2 : ∀ p ∈ (y, instObj 1075 e) :: (e, sdict w σ (ws.length : Nat) u1 (wo ws) u2) :: (σ.io, instObj 350 d) :: (d, bdict w β (at_ : Int) t) :: (β.ba, baObj (byteArr rs)) :: (R, PySem.W.listOf rvs.toArray rc) :: (wl, PySem.W.listOf wvs.toArray wc) :: own, p.1 < wl2) (hm1 : 1 ≤ ms.length) (hm2 : ms.length ≤ 4) (ret : ∀ h' tk m' wl2 (wvs2 : List Value) ms' wc2, Fr h₀ L h' m' → Has m' [(Str.ofString "wanted", .ref wl2), (Str.ofString "x", .int X tx), (Str.ofString "y", .int Y ty), (Str.ofString "at", .int (at_ : Int) ta), (Str.ofString "waiting", .ref wl), (Str.ofString "row", .ref R), (Str.ofString "stream", .ref y), (Str.ofString "extent", .int (rs.length : Nat) te), (Str.ofString "script", .ref sl)] → News h₀ L h' ((wl2, PySem.W.listOf wvs2.toArray wc2) :: (y, instObj 1075 e) :: (e, sdict w σ (ws.length : Nat) u1 (wo ws) u2) :: (σ.io, instObj 350 d) :: (d, bdict w β (at_ : Int) t) :: (β.ba, baObj (byteArr rs)) :: (R, PySem.W.listOf rvs.toArray rc) :: (wl, PySem.W.listOf wvs.toArray wc) :: own) → IntsAre wvs2 ms' → (∀ k ∈ ms', 0 ≤ k ∧ k < 256) → 1 ≤ ms'.length → ms'.length ≤ 5 → Qf .next { s with heap := h', toks := tk }) :
    wpAny (model prog w) (ktrTop dp un gd lawRec.name lawRec.scope L a ccd [] []) (execs (thenOf if1) (envX lawRec.name lawRec.scope L a ccd [])) Qf Ef s := by
  obtain ⟨ap1, ap2, ap3, ap4, ap5, ap6, ap7, ap8, ap9⟩ := ap
  have ao8 : ∀ p ∈ own, p.1 ≠ e := fun p hp => ap8 p (.tail _ (.tail _ hp))
  have ao9 : ∀ p ∈ own, p.1 ≠ d := fun p hp => ap9 p (.tail _ (.tail _ hp))
  have ar8 := ap8 _ (.head _)
  have ar9 := ap9 _ (.head _)
  have aw8 := ap8 _ (.tail _ (.head _))
  have aw9 := ap9 _ (.tail _ (.head _))
  clear ap8 ap9
  dsimp only at ar8 ar9 aw8 aw9
  replace ap1 := neN ap1
  replace ap2 := neN ap2
  replace ap3 := neN ap3
  replace ap4 := neN ap4
  replace ap5 := neN ap5
  replace ap6 := neN ap6
  replace ap7 := neN ap7
  replace ar8 := neN ar8
  replace ar9 := neN ar9
  replace aw8 := neN aw8
  replace aw9 := neN aw9
  have hdr : dp + 400 < recursionLimit := Nat.lt_of_le_of_lt (Nat.add_le_add_right hd 400) (by decide)
  have hur : un + 4000 < cLine := Nat.lt_of_le_of_lt (Nat.add_le_add_right hu 4000) (by decide)
  have hbs : (byteArr rs).size = rs.length := by simp [byteArr]
  have hbz : (byteArr rs).size ≤ 16777216 := by omega
  have hy0 := fmod_lo Y (n := (ms.length : Int)) (by omega)
  have hy1 := fmod_hi Y (n := (ms.length : Int)) (by omega)
  unfold if1
  k_steps
  refine Stop.mk ?_
  (rename News _ _ _ _ => N8)
  (rename Fr _ _ _ _ => F8)
  k_dflt refine' ksa_set F8 N8 (.head fun p hp => Nat.ne_of_lt (hap2 p hp)) hwi2 hy0 hy1 ?fit ?_
  case fit => omega
  k_whole
  intro h9 F9 N9 I9 hl9 _
  k_steps
  (rename Fr _ _ _ _ => FX)
  (rename News _ _ _ _ => NX)
  refine ret _ _ _ _ _ _ _ FX (List.forall_mem_cons.mpr ⟨rfl, (List.forall_mem_cons.mpr ⟨rfl, (List.forall_mem_cons.mpr ⟨rfl, (List.forall_mem_cons.mpr ⟨rfl, (List.forall_mem_cons.mpr ⟨rfl, (List.forall_mem_cons.mpr ⟨rfl, (List.forall_mem_cons.mpr ⟨rfl, (List.forall_mem_cons.mpr ⟨rfl, (List.forall_mem_cons.mpr ⟨rfl, (fun _ h => nomatch h)⟩)⟩)⟩)⟩)⟩)⟩)⟩)⟩)⟩) NX I9 ?_ (by omega) (by omega)
  intro k hk
  rcases List.mem_or_eq_of_mem_set hk with h | h
  · exact hmb k h
  · rw [h]; exact ⟨fmod_lo _ (by decide), fmod_hi _ (by decide)⟩
theorem ens_app {σ : Sd} {β : Bd} {y e d R wl sl : Addr} {u1 u2 t ta te tx ty : Tok} {rs ws : List Int} {rvs wvs : List Value} {wc rc at_ : Nat} {wl2 : Addr} {wvs2 : List Value} {ms : List Int} {wc2 : Nat} {tm : Tok} {own : List (Addr × Obj)} {mm : Str → Option Value} {X Y : Int}
    (hd : dp ≤ 310) (hu : un ≤ 100) (XB : (K w.params).In base) (TB : Top p loose mean mg mb base) (B : Below A₀ base [] h₀) (KX : (K w.params).In h₀) (T : Top p loose mean mg mb h₀)
    (F : Fr h₀ L s.heap (fun z => if z = Str.ofString "wanted" then some (.ref wl2) else if z = Str.ofString "many" then some (.int ((ms.length : Nat) : Int) tm) else if z = Str.ofString "y" then some (.int Y ty) else if z = Str.ofString "x" then some (.int X tx)
      else if z = Str.ofString "at" then some (.int (at_ : Int) ta) else if z = Str.ofString "waiting" then some (.ref wl) else if z = Str.ofString "row" then some (.ref R) else if z = Str.ofString "stream" then some (.ref y) else if z = Str.ofString "extent" then some (.int (rs.length : Nat) te)
      else if z = Str.ofString "script" then some (.ref sl) else mm z))
    (N : News h₀ L s.heap ((wl2, PySem.W.listOf wvs2.toArray wc2) :: (y, instObj 1075 e) :: (e, sdict w σ (ws.length : Nat) u1 (wo ws) u2) :: (σ.io, instObj 350 d) :: (d, bdict w β (at_ : Int) t) :: (β.ba, baObj (byteArr rs)) :: (R, PySem.W.listOf rvs.toArray rc) :: (wl, PySem.W.listOf wvs.toArray wc) :: own)) (hwi2 : IntsAre wvs2 ms) (hmb : ∀ n ∈ ms, 0 ≤ n ∧ n < 256)
    (hown : ∀ p ∈ own, p.2.cls ≠ .type "dict")
    (ap : Ap y e σ.io d β.ba ((R, PySem.W.listOf rvs.toArray rc) :: (wl, PySem.W.listOf wvs.toArray wc) :: own))
    (hri : IntsAre rvs rs) (hrb : ∀ n ∈ rs, 0 ≤ n ∧ n < 256) (hrl : rs.length ≤ 14) (hrl2 : 2 ≤ rs.length) (hwi : IntsAre wvs ws) (hwb : ∀ n ∈ ws, 0 ≤ n ∧ n ≤ 1) (hwn : ws.length < 8) (hat : at_ ≤ rs.length + 1) (hm1 : 1 ≤ ms.length) (hm2 : ms.length ≤ 4) (ret : ∀ h' tk m' wl2 (wvs2 : List Value) ms' wc2, Fr h₀ L h' m' → Has m' [(Str.ofString "wanted", .ref wl2), (Str.ofString "x", .int X tx), (Str.ofString "y", .int Y ty), (Str.ofString "at", .int (at_ : Int) ta), (Str.ofString "waiting", .ref wl), (Str.ofString "row", .ref R), (Str.ofString "stream", .ref y), (Str.ofString "extent", .int (rs.length : Nat) te), (Str.ofString "script", .ref sl)] → News h₀ L h' ((wl2, PySem.W.listOf wvs2.toArray wc2) :: (y, instObj 1075 e) :: (e, sdict w σ (ws.length : Nat) u1 (wo ws) u2) :: (σ.io, instObj 350 d) :: (d, bdict w β (at_ : Int) t) :: (β.ba, baObj (byteArr rs)) :: (R, PySem.W.listOf rvs.toArray rc) :: (wl, PySem.W.listOf wvs.toArray wc) :: own) → IntsAre wvs2 ms' → (∀ k ∈ ms', 0 ≤ k ∧ k < 256) → 1 ≤ ms'.length → ms'.length ≤ 5 → Qf .next { s with heap := h', toks := tk }) :
    wpAny (model prog w) (ktrTop dp un gd lawRec.name lawRec.scope L a ccd [] []) (execs (thenOf if2) (envX lawRec.name lawRec.scope L a ccd [])) Qf Ef s := by
  obtain ⟨ap1, ap2, ap3, ap4, ap5, ap6, ap7, ap8, ap9⟩ := ap
  have ao8 : ∀ p ∈ own, p.1 ≠ e := fun p hp => ap8 p (.tail _ (.tail _ hp))
  have ao9 : ∀ p ∈ own, p.1 ≠ d := fun p hp => ap9 p (.tail _ (.tail _ hp))
  have ar8 := ap8 _ (.head _)
  have ar9 := ap9 _ (.head _)
  have aw8 := ap8 _ (.tail _ (.head _))
  have aw9 := ap9 _ (.tail _ (.head _))
  clear ap8 ap9
  dsimp only at ar8 ar9 aw8 aw9
  replace ap1 := neN ap1
  replace ap2 := neN ap2
  replace ap3 := neN ap3
  replace ap4 := neN ap4
  replace ap5 := neN ap5
  replace ap6 := neN ap6
  replace ap7 := neN ap7
  replace ar8 := neN ar8
  replace ar9 := neN ar9
  replace aw8 := neN aw8
  replace aw9 := neN aw9
  have hdr : dp + 400 < recursionLimit := Nat.lt_of_le_of_lt (Nat.add_le_add_right hd 400) (by decide)
  have hur : un + 4000 < cLine := Nat.lt_of_le_of_lt (Nat.add_le_add_right hu 4000) (by decide)
  have hbs : (byteArr rs).size = rs.length := by simp [byteArr]
  have hbz : (byteArr rs).size ≤ 16777216 := by omega
  have hz0 := fmod_lo Y (n := 256) (by decide)
  have hz1 := fmod_hi Y (n := 256) (by decide)
  unfold if2
  k_steps
  refine Stop.mk ?_
  (rename News _ _ _ _ => N8)
  (rename Fr _ _ _ _ => F8)
  k_dflt refine' kmk_add_ints F8 N8 ?a ?b hwi2 (.cons _ _ .nil) ?_ ?z
  case a => exact isl N8 (by k_mem)
  case b => exact isl (vs := [_]) N8 (by k_mem)
  case z => rw [sizeLine_eq]; simp only [List.length_cons, List.length_nil]; omega
  k_whole
  intro D9 us9 h9 F9 N9 l9 I9
  k_steps
  (rename Fr _ _ _ _ => FX)
  (rename News _ _ _ _ => NX)
  refine ret _ _ _ _ _ _ _ FX (List.forall_mem_cons.mpr ⟨rfl, (List.forall_mem_cons.mpr ⟨rfl, (List.forall_mem_cons.mpr ⟨rfl, (List.forall_mem_cons.mpr ⟨rfl, (List.forall_mem_cons.mpr ⟨rfl, (List.forall_mem_cons.mpr ⟨rfl, (List.forall_mem_cons.mpr ⟨rfl, (List.forall_mem_cons.mpr ⟨rfl, (List.forall_mem_cons.mpr ⟨rfl, (fun _ h => nomatch h)⟩)⟩)⟩)⟩)⟩)⟩)⟩)⟩)⟩) (news_sub NX (by ((repeat refine sub_cons (by k_mem) ?_); (repeat first | exact sub_self | exact sub_nil | refine sub_up ?_)))) I9 ?_ (by rw [List.length_append]; omega) (by rw [List.length_append]; simp only [List.length_cons, List.length_nil]; omega)
  intro k hk
  rcases List.mem_append.mp hk with h | h
  · exact hmb k h
  · rw [List.mem_singleton.mp h]; exact ⟨hz0, hz1⟩
end
end Mine
end
section
open PySem PySem.W PySem.Calls PyProof.Rows PySem.Spec
set_option maxRecDepth 100000
set_option maxHeartbeats 8000000
namespace Mine
theorem resetEnsC2 {M : Model} {A : Around} {env : Env} {x : Str} {v : Value} {Q : Unit → Shared → Prop} {E : Value → Shared → Prop} {s : Shared} (h : wpAny M A (storeName env x v) Q E s) : wpAny M A (storeName env x v) Q E s := by
  w_top off
  k_with_none
  first
    | (walk1; fail)
    | exact h
local macro_rules | `(tactic| k_upd) => `(tactic| first | exact Pick.head | (refine' Pick.tail ?pp; (case pp => k_upd)))
local macro_rules | `(tactic| k_all) => `(tactic| assumption)
local macro_rules | `(tactic| k_room) => `(tactic| ktr_room)
local macro_rules | `(tactic| walk_at "call type:type") => `(tactic| refine call_type_of (PySem.W.typeIs_bytes _ _ _) (by decide +kernel) ?_)
local macro_rules | `(tactic| walk_at "call builtin:len") => `(tactic| (k_here; (with_reducible show wpAny _ _ (call (Value.builtin "len") [Value.ref _]) _ _ _); k_dflt (refine' len_baN ?N ?m ?z ?_; (case N => k_asm); (case m => k_mem); (case z => (first | assumption | exact Nat.le_trans (KBc.size_picked_le _ _ _) (by assumption))); k_whole); intro _ _))
local macro_rules | `(tactic| walk_at "call type:bytes") => `(tactic| (k_here; (with_reducible show wpAny _ _ (call (Value.type "bytes") [Value.ref _]) _ _ _); k_dflt (refine' bytes_baN ?N ?m ?z ?_; (case N => k_asm); (case m => k_mem); (case z => (first | assumption | exact Nat.le_trans (KBc.size_picked_le _ _ _) (by assumption))); k_whole); intro _ _))
local macro_rules | `(tactic| walk_at "subscriptTail") => `(tactic| (k_here; (with_reducible show wpAny _ _ (subscriptTail _ (Expr.Slice _ _ none _) (Value.ref _) (Value.ref _)) _ _ _); (with_reducible rename Fr _ _ _ _ => F'); (with_reducible rename News _ _ _ _ => N'); (refine cut_baN (s := ⟨_, _, _, _, _⟩) F' N' (by k_mem) (by constructor) (by constructor) (by (first | assumption | exact Nat.le_trans (KBc.size_picked_le _ _ _) (by assumption))) ?_); intro _ _ _ _ _))
local macro_rules | `(tactic| walk_at "call builtin:len") => `(tactic| (k_here; (with_reducible show wpAny _ _ (call (Value.builtin "len") [Value.bytes (rdB _ _ _) _]) _ _ _); refine len_bytes (Nat.le_trans rdB_le (by omega)) ?_))
local macro_rules | `(tactic| walk_at "call builtin:_struct.unpack") => `(tactic| (k_here; k_dflt (refine' unpackBN ?F ?N ?hb ?_; (case F => k_asm); (case N => k_asm); (case hb => assumption); k_whole); intro _ _ _ _ F' N' l1; (try k_lt l1)))
local macro_rules | `(tactic| walk_at "call type:enumerate") => `(tactic| (k_here; (with_reducible show wpAny _ _ (call (Value.type _) [Value.bytes _ _]) _ _ _); k_dflt (refine' call_enumB rfl ?hk ?F ?N ?_; (case hk => assumption); (case F => k_asm); (case N => k_asm); k_whole); intro _ _ F' N' S'))
local macro_rules | `(tactic| walk_at "pyReprObj bytes") => `(tactic| (k_here; (refine repr_bytes (by first | assumption | exact Nat.le_trans rdB_le (by omega)) (by first | assumption | exact literal_le (by first | omega | exact Nat.le_trans rdB_le (by omega))) ?_)))
local macro_rules | `(tactic| walk_at "call ref") => `(tactic| (k_here; k_dflt (first
  | ((with_reducible show wpAny _ _ (call (Value.ref 250) _) _ _ _); refine' tell_pk ?B ?F ?X ?T ?hk ?hd ?hu ?N ?P1 ?P2 ?_; (case F => k_asm); (case X => k_asm); (case T => k_asm); (case B => k_asm); (case hk => (first | assumption | rfl)); (case N => k_asm); (case hd => (first | omega | ((try simp only [depth_deeper, units_deeper, depth_in1, units_in1]); (try dsimp only [ktrTop]); omega))); (case hu => (first | omega | ((try simp only [depth_deeper, units_deeper, depth_in1, units_in1]); (try dsimp only [ktrTop]); omega))); (case P1 => k_upd); (case P2 => k_upd); k_whole; intro _ _ _ F' N')
  | ((with_reducible show wpAny _ _ (call (Value.ref 258) _) _ _ _); refine' end_pk ?B ?F ?X ?T ?hk ?hd ?hu ?hz ?N ?P1 ?P2 ?P3 ?n1 ?n2 ?n3 ?_; (case F => k_asm); (case X => k_asm); (case T => k_asm); (case B => k_asm); (case hk => (first | assumption | rfl)); (case N => k_asm); (case hd => (first | omega | ((try simp only [depth_deeper, units_deeper, depth_in1, units_in1]); (try dsimp only [ktrTop]); omega))); (case hu => (first | omega | ((try simp only [depth_deeper, units_deeper, depth_in1, units_in1]); (try dsimp only [ktrTop]); omega))); (case hz => assumption); (case P1 => k_upd); (case P2 => k_upd); (case P3 => k_upd); (case n1 => (first | assumption | k_ne)); (case n2 => (first | assumption | k_ne)); (case n3 => k_all); k_whole; intro _ _ _ _ F' N')
  | ((with_reducible show wpAny _ _ (call (Value.ref 258) _) _ _ _); refine' seek_pk ?B ?F ?X ?T ?hk ?hd ?hu ?h0 ?h1 ?N ?P1 ?P2 ?n1 ?n3 ?_; (case F => k_asm); (case X => k_asm); (case T => k_asm); (case B => k_asm); (case hk => (first | assumption | rfl)); (case N => k_asm); (case hd => (first | omega | ((try simp only [depth_deeper, units_deeper, depth_in1, units_in1]); (try dsimp only [ktrTop]); omega))); (case hu => (first | omega | ((try simp only [depth_deeper, units_deeper, depth_in1, units_in1]); (try dsimp only [ktrTop]); omega))); (case h0 => (first | omega | ((try simp only [depth_deeper, units_deeper, depth_in1, units_in1]); (try dsimp only [ktrTop]); omega))); (case h1 => (first | omega | ((try simp only [depth_deeper, units_deeper, depth_in1, units_in1]); (try dsimp only [ktrTop]); omega))); (case P1 => k_upd); (case P2 => k_upd); (case n1 => (first | assumption | k_ne)); (case n3 => k_all); k_whole; intro _ _ _ _ F' N')
  | ((with_reducible show wpAny _ _ (call (Value.ref 274) _) _ _ _); refine' read_pk ?B ?F ?X ?T ?hk ?hd ?hu ?h1 ?hp ?hz ?N ?P1 ?P2 ?P3 ?n1 ?n2 ?n3 ?_; (case F => k_asm); (case X => k_asm); (case T => k_asm); (case B => k_asm); (case hk => (first | assumption | rfl)); (case N => k_asm); (case hd => (first | omega | ((try simp only [depth_deeper, units_deeper, depth_in1, units_in1]); (try dsimp only [ktrTop]); omega))); (case hu => (first | omega | ((try simp only [depth_deeper, units_deeper, depth_in1, units_in1]); (try dsimp only [ktrTop]); omega))); (case h1 => (first | omega | ((try simp only [depth_deeper, units_deeper, depth_in1, units_in1]); (try dsimp only [ktrTop]); omega))); (case hp => (first | omega | ((try simp only [depth_deeper, units_deeper, depth_in1, units_in1]); (try dsimp only [ktrTop]); omega))); (case hz => assumption); (case P1 => k_upd); (case P2 => k_upd); (case P3 => k_upd); (case n1 => (first | assumption | k_ne)); (case n2 => (first | assumption | k_ne)); (case n3 => k_all); k_whole; intro _ _ _ _ F' N')
  | ((with_reducible show wpAny _ _ (call (Value.ref 274) _) _ _ _); refine' full_pk ?B ?F ?X ?T ?hk ?hd ?hu ?hp ?hz ?N ?P1 ?P2 ?P3 ?n1 ?n2 ?n3 ?_; (case F => k_asm); (case X => k_asm); (case T => k_asm); (case B => k_asm); (case hk => (first | assumption | rfl)); (case N => k_asm); (case hd => (first | omega | ((try simp only [depth_deeper, units_deeper, depth_in1, units_in1]); (try dsimp only [ktrTop]); omega))); (case hu => (first | omega | ((try simp only [depth_deeper, units_deeper, depth_in1, units_in1]); (try dsimp only [ktrTop]); omega))); (case hp => (first | omega | ((try simp only [depth_deeper, units_deeper, depth_in1, units_in1]); (try dsimp only [ktrTop]); omega))); (case hz => assumption); (case P1 => k_upd); (case P2 => k_upd); (case P3 => k_upd); (case n1 => (first | assumption | k_ne)); (case n2 => (first | assumption | k_ne)); (case n3 => k_all); k_whole; intro _ _ _ _ F' N'))))
section
variable {w : World} {p : Program} {loose : List Str} {mean : ExcName → Option Value} {mg mb : Str → Option Value} {dp un : Nat} {gd : Option (List Code)} {a : Addr} {ccd : Value} {A₀ : Around} {base h₀ : Heap} {L : Addr} {s : Shared} {Qf : Flow → Shared → Prop} {Ef : Value → Shared → Prop}
local macro_rules | `(tactic| walk_at "exec If") => `(tactic| (k_here; refine stop_here ?_))
local macro_rules | `(tactic| walk_at "ite") => `(tactic| (k_here; refine stop_here ?_))
theorem ens_B1 {σ : Sd} {β : Bd} {y e d R wl sl : Addr} {u1 u2 t ta te tx ty : Tok} {rs ws : List Int} {rvs wvs : List Value} {wc rc at_ : Nat} {wl2 : Addr} {wvs2 : List Value} {ms : List Int} {wc2 : Nat} {tm : Tok} {own : List (Addr × Obj)} {mm : Str → Option Value} {X Y : Int}
    (hd : dp ≤ 310) (hu : un ≤ 100) (XB : (K w.params).In base) (TB : Top p loose mean mg mb base) (B : Below A₀ base [] h₀) (KX : (K w.params).In h₀) (T : Top p loose mean mg mb h₀)
    (F : Fr h₀ L s.heap (fun z => if z = Str.ofString "wanted" then some (.ref wl2) else if z = Str.ofString "many" then some (.int ((ms.length : Nat) : Int) tm) else if z = Str.ofString "y" then some (.int Y ty) else if z = Str.ofString "x" then some (.int X tx)
      else if z = Str.ofString "at" then some (.int (at_ : Int) ta) else if z = Str.ofString "waiting" then some (.ref wl) else if z = Str.ofString "row" then some (.ref R) else if z = Str.ofString "stream" then some (.ref y) else if z = Str.ofString "extent" then some (.int (rs.length : Nat) te)
      else if z = Str.ofString "script" then some (.ref sl) else mm z))
    (N : News h₀ L s.heap ((wl2, PySem.W.listOf wvs2.toArray wc2) :: (y, instObj 1075 e) :: (e, sdict w σ (ws.length : Nat) u1 (wo ws) u2) :: (σ.io, instObj 350 d) :: (d, bdict w β (at_ : Int) t) :: (β.ba, baObj (byteArr rs)) :: (R, PySem.W.listOf rvs.toArray rc) :: (wl, PySem.W.listOf wvs.toArray wc) :: own)) (hwi2 : IntsAre wvs2 ms) (hmb : ∀ n ∈ ms, 0 ≤ n ∧ n < 256)
    (hown : ∀ p ∈ own, p.2.cls ≠ .type "dict")
    (ap : Ap y e σ.io d β.ba ((R, PySem.W.listOf rvs.toArray rc) :: (wl, PySem.W.listOf wvs.toArray wc) :: own))
    (hri : IntsAre rvs rs) (hrb : ∀ n ∈ rs, 0 ≤ n ∧ n < 256) (hrl : rs.length ≤ 14) (hrl2 : 2 ≤ rs.length) (hwi : IntsAre wvs ws) (hwb : ∀ n ∈ ws, 0 ≤ n ∧ n ≤ 1) (hwn : ws.length < 8) (hat : at_ ≤ rs.length + 1) (hap2 : ∀ p ∈ (y, instObj 1075 e) :: (e, sdict w σ (ws.length : Nat) u1 (wo ws) u2) :: (σ.io, instObj 350 d) :: (d, bdict w β (at_ : Int) t) :: (β.ba, baObj (byteArr rs)) :: (R, PySem.W.listOf rvs.toArray rc) :: (wl, PySem.W.listOf wvs.toArray wc) :: own, p.1 < wl2) (hm1 : 1 ≤ ms.length) (hm2 : ms.length ≤ 4) (hq : (X.fdiv 4).fmod 3 = 1) (ret : ∀ h' tk m' wl2 (wvs2 : List Value) ms' wc2, Fr h₀ L h' m' → Has m' [(Str.ofString "wanted", .ref wl2), (Str.ofString "at", .int (at_ : Int) ta), (Str.ofString "waiting", .ref wl), (Str.ofString "row", .ref R), (Str.ofString "stream", .ref y), (Str.ofString "extent", .int (rs.length : Nat) te), (Str.ofString "script", .ref sl)] → News h₀ L h' ((wl2, PySem.W.listOf wvs2.toArray wc2) :: (y, instObj 1075 e) :: (e, sdict w σ (ws.length : Nat) u1 (wo ws) u2) :: (σ.io, instObj 350 d) :: (d, bdict w β (at_ : Int) t) :: (β.ba, baObj (byteArr rs)) :: (R, PySem.W.listOf rvs.toArray rc) :: (wl, PySem.W.listOf wvs.toArray wc) :: own) → IntsAre wvs2 ms' → (∀ k ∈ ms', 0 ≤ k ∧ k < 256) → 1 ≤ ms'.length → ms'.length ≤ 5 → Qf .next { s with heap := h', toks := tk }) :
    wpAny (model prog w) (ktrTop dp un gd lawRec.name lawRec.scope L a ccd [] []) (execs ((ensBody.drop 3).take 2) (envX lawRec.name lawRec.scope L a ccd [])) Qf Ef s := by
  k_steps
  refine Stop.mk ?_
  refine wpAny_If ?_
  k_steps
  refine Stop.mk ?_
  rw [if_pos (by rw [hq]; rfl)]
  (rename News _ _ _ _ => N8)
  (rename Fr _ _ _ _ => F8)
  k_dflt refine' ens_set hd hu XB TB B KX T F8 N8 hwi2 hmb hown ap hri hrb hrl hrl2 hwi hwb hwn hat hap2 hm1 hm2 ?_
  k_whole
  intro h9 tk9 m9 wl9 wvs9 ms9 wc9 F9 H9 N9 I9 hb9 hl1 hl2
  rw [has_map H9] at F9
  simp only [List.foldr] at F9
  dsimp only
  k_steps
  refine Stop.mk ?_
  refine wpAny_If ?_
  k_steps
  refine Stop.mk ?_
  rw [if_neg (by rw [hq]; decide)]
  k_steps
  dsimp only [List.take]
  k_steps
  (rename Fr _ _ _ _ => FX)
  (rename News _ _ _ _ => NX)
  refine ret h9 _ _ wl9 wvs9 ms9 wc9 FX ?_ NX I9 hb9 hl1 hl2
  refine List.forall_mem_cons.mpr ⟨rfl, ?_⟩
  refine List.forall_mem_cons.mpr ⟨rfl, ?_⟩
  refine List.forall_mem_cons.mpr ⟨rfl, ?_⟩
  refine List.forall_mem_cons.mpr ⟨rfl, ?_⟩
  refine List.forall_mem_cons.mpr ⟨rfl, ?_⟩
  refine List.forall_mem_cons.mpr ⟨rfl, ?_⟩
  refine List.forall_mem_cons.mpr ⟨rfl, ?_⟩
  exact fun _ h => nomatch h
theorem ens_B2 {σ : Sd} {β : Bd} {y e d R wl sl : Addr} {u1 u2 t ta te tx ty : Tok} {rs ws : List Int} {rvs wvs : List Value} {wc rc at_ : Nat} {wl2 : Addr} {wvs2 : List Value} {ms : List Int} {wc2 : Nat} {tm : Tok} {own : List (Addr × Obj)} {mm : Str → Option Value} {X Y : Int}
    (hd : dp ≤ 310) (hu : un ≤ 100) (XB : (K w.params).In base) (TB : Top p loose mean mg mb base) (B : Below A₀ base [] h₀) (KX : (K w.params).In h₀) (T : Top p loose mean mg mb h₀)
    (F : Fr h₀ L s.heap (fun z => if z = Str.ofString "wanted" then some (.ref wl2) else if z = Str.ofString "many" then some (.int ((ms.length : Nat) : Int) tm) else if z = Str.ofString "y" then some (.int Y ty) else if z = Str.ofString "x" then some (.int X tx)
      else if z = Str.ofString "at" then some (.int (at_ : Int) ta) else if z = Str.ofString "waiting" then some (.ref wl) else if z = Str.ofString "row" then some (.ref R) else if z = Str.ofString "stream" then some (.ref y) else if z = Str.ofString "extent" then some (.int (rs.length : Nat) te)
      else if z = Str.ofString "script" then some (.ref sl) else mm z))
    (N : News h₀ L s.heap ((wl2, PySem.W.listOf wvs2.toArray wc2) :: (y, instObj 1075 e) :: (e, sdict w σ (ws.length : Nat) u1 (wo ws) u2) :: (σ.io, instObj 350 d) :: (d, bdict w β (at_ : Int) t) :: (β.ba, baObj (byteArr rs)) :: (R, PySem.W.listOf rvs.toArray rc) :: (wl, PySem.W.listOf wvs.toArray wc) :: own)) (hwi2 : IntsAre wvs2 ms) (hmb : ∀ n ∈ ms, 0 ≤ n ∧ n < 256)
    (hown : ∀ p ∈ own, p.2.cls ≠ .type "dict")
    (ap : Ap y e σ.io d β.ba ((R, PySem.W.listOf rvs.toArray rc) :: (wl, PySem.W.listOf wvs.toArray wc) :: own))
    (hri : IntsAre rvs rs) (hrb : ∀ n ∈ rs, 0 ≤ n ∧ n < 256) (hrl : rs.length ≤ 14) (hrl2 : 2 ≤ rs.length) (hwi : IntsAre wvs ws) (hwb : ∀ n ∈ ws, 0 ≤ n ∧ n ≤ 1) (hwn : ws.length < 8) (hat : at_ ≤ rs.length + 1) (hm1 : 1 ≤ ms.length) (hm2 : ms.length ≤ 4) (hq : (X.fdiv 4).fmod 3 = 2) (ret : ∀ h' tk m' wl2 (wvs2 : List Value) ms' wc2, Fr h₀ L h' m' → Has m' [(Str.ofString "wanted", .ref wl2), (Str.ofString "at", .int (at_ : Int) ta), (Str.ofString "waiting", .ref wl), (Str.ofString "row", .ref R), (Str.ofString "stream", .ref y), (Str.ofString "extent", .int (rs.length : Nat) te), (Str.ofString "script", .ref sl)] → News h₀ L h' ((wl2, PySem.W.listOf wvs2.toArray wc2) :: (y, instObj 1075 e) :: (e, sdict w σ (ws.length : Nat) u1 (wo ws) u2) :: (σ.io, instObj 350 d) :: (d, bdict w β (at_ : Int) t) :: (β.ba, baObj (byteArr rs)) :: (R, PySem.W.listOf rvs.toArray rc) :: (wl, PySem.W.listOf wvs.toArray wc) :: own) → IntsAre wvs2 ms' → (∀ k ∈ ms', 0 ≤ k ∧ k < 256) → 1 ≤ ms'.length → ms'.length ≤ 5 → Qf .next { s with heap := h', toks := tk }) :
    wpAny (model prog w) (ktrTop dp un gd lawRec.name lawRec.scope L a ccd [] []) (execs ((ensBody.drop 3).take 2) (envX lawRec.name lawRec.scope L a ccd [])) Qf Ef s := by
  k_steps
  refine Stop.mk ?_
  refine wpAny_If ?_
  k_steps
  refine Stop.mk ?_
  rw [if_neg (by rw [hq]; decide)]
  k_steps
  refine Stop.mk ?_
  refine wpAny_If ?_
  k_steps
  refine Stop.mk ?_
  rw [if_pos (by rw [hq]; rfl)]
  (rename News _ _ _ _ => N8)
  (rename Fr _ _ _ _ => F8)
  k_dflt refine' ens_app hd hu XB TB B KX T F8 N8 hwi2 hmb hown ap hri hrb hrl hrl2 hwi hwb hwn hat hm1 hm2 ?_
  k_whole
  intro h9 tk9 m9 wl9 wvs9 ms9 wc9 F9 H9 N9 I9 hb9 hl1 hl2
  rw [has_map H9] at F9
  simp only [List.foldr] at F9
  dsimp only
  dsimp only [List.take]
  k_steps
  (rename Fr _ _ _ _ => FX)
  (rename News _ _ _ _ => NX)
  refine ret _ _ _ _ _ _ _ FX ?_ NX I9 hb9 hl1 hl2
  refine List.forall_mem_cons.mpr ⟨rfl, ?_⟩
  refine List.forall_mem_cons.mpr ⟨rfl, ?_⟩
  refine List.forall_mem_cons.mpr ⟨rfl, ?_⟩
  refine List.forall_mem_cons.mpr ⟨rfl, ?_⟩
  refine List.forall_mem_cons.mpr ⟨rfl, ?_⟩
  refine List.forall_mem_cons.mpr ⟨rfl, ?_⟩
  refine List.forall_mem_cons.mpr ⟨rfl, ?_⟩
  exact fun _ h => nomatch h
theorem ens_B3 {σ : Sd} {β : Bd} {y e d R wl sl : Addr} {u1 u2 t ta te tx ty : Tok} {rs ws : List Int} {rvs wvs : List Value} {wc rc at_ : Nat} {wl2 : Addr} {wvs2 : List Value} {ms : List Int} {wc2 : Nat} {tm : Tok} {own : List (Addr × Obj)} {mm : Str → Option Value} {X Y : Int}
    (hd : dp ≤ 310) (hu : un ≤ 100) (XB : (K w.params).In base) (TB : Top p loose mean mg mb base) (B : Below A₀ base [] h₀) (KX : (K w.params).In h₀) (T : Top p loose mean mg mb h₀)
    (F : Fr h₀ L s.heap (fun z => if z = Str.ofString "wanted" then some (.ref wl2) else if z = Str.ofString "many" then some (.int ((ms.length : Nat) : Int) tm) else if z = Str.ofString "y" then some (.int Y ty) else if z = Str.ofString "x" then some (.int X tx)
      else if z = Str.ofString "at" then some (.int (at_ : Int) ta) else if z = Str.ofString "waiting" then some (.ref wl) else if z = Str.ofString "row" then some (.ref R) else if z = Str.ofString "stream" then some (.ref y) else if z = Str.ofString "extent" then some (.int (rs.length : Nat) te)
      else if z = Str.ofString "script" then some (.ref sl) else mm z))
    (N : News h₀ L s.heap ((wl2, PySem.W.listOf wvs2.toArray wc2) :: (y, instObj 1075 e) :: (e, sdict w σ (ws.length : Nat) u1 (wo ws) u2) :: (σ.io, instObj 350 d) :: (d, bdict w β (at_ : Int) t) :: (β.ba, baObj (byteArr rs)) :: (R, PySem.W.listOf rvs.toArray rc) :: (wl, PySem.W.listOf wvs.toArray wc) :: own)) (hwi2 : IntsAre wvs2 ms) (hmb : ∀ n ∈ ms, 0 ≤ n ∧ n < 256)
    (hown : ∀ p ∈ own, p.2.cls ≠ .type "dict")
    (ap : Ap y e σ.io d β.ba ((R, PySem.W.listOf rvs.toArray rc) :: (wl, PySem.W.listOf wvs.toArray wc) :: own))
    (hri : IntsAre rvs rs) (hrb : ∀ n ∈ rs, 0 ≤ n ∧ n < 256) (hrl : rs.length ≤ 14) (hrl2 : 2 ≤ rs.length) (hwi : IntsAre wvs ws) (hwb : ∀ n ∈ ws, 0 ≤ n ∧ n ≤ 1) (hwn : ws.length < 8) (hat : at_ ≤ rs.length + 1) (hm1 : 1 ≤ ms.length) (hm2 : ms.length ≤ 4) (hq : (X.fdiv 4).fmod 3 ≠ 1) (hq2 : (X.fdiv 4).fmod 3 ≠ 2) (ret : ∀ h' tk m' wl2 (wvs2 : List Value) ms' wc2, Fr h₀ L h' m' → Has m' [(Str.ofString "wanted", .ref wl2), (Str.ofString "at", .int (at_ : Int) ta), (Str.ofString "waiting", .ref wl), (Str.ofString "row", .ref R), (Str.ofString "stream", .ref y), (Str.ofString "extent", .int (rs.length : Nat) te), (Str.ofString "script", .ref sl)] → News h₀ L h' ((wl2, PySem.W.listOf wvs2.toArray wc2) :: (y, instObj 1075 e) :: (e, sdict w σ (ws.length : Nat) u1 (wo ws) u2) :: (σ.io, instObj 350 d) :: (d, bdict w β (at_ : Int) t) :: (β.ba, baObj (byteArr rs)) :: (R, PySem.W.listOf rvs.toArray rc) :: (wl, PySem.W.listOf wvs.toArray wc) :: own) → IntsAre wvs2 ms' → (∀ k ∈ ms', 0 ≤ k ∧ k < 256) → 1 ≤ ms'.length → ms'.length ≤ 5 → Qf .next { s with heap := h', toks := tk }) :
    wpAny (model prog w) (ktrTop dp un gd lawRec.name lawRec.scope L a ccd [] []) (execs ((ensBody.drop 3).take 2) (envX lawRec.name lawRec.scope L a ccd [])) Qf Ef s := by
  k_steps
  refine Stop.mk ?_
  refine wpAny_If ?_
  k_steps
  refine Stop.mk ?_
  rw [if_neg (show ¬ (((X.fdiv 4).fmod 3 == 1) = true) from fun h => hq (eq_of_beq h))]
  k_steps
  refine Stop.mk ?_
  refine wpAny_If ?_
  k_steps
  refine Stop.mk ?_
  rw [if_neg (show ¬ (((X.fdiv 4).fmod 3 == 2) = true) from fun h => hq2 (eq_of_beq h))]
  refine wpAny_execs_nil ?_
  dsimp only [List.take]
  refine wpAny_execs_nil ?_
  (rename Fr _ _ _ _ => FX)
  (rename News _ _ _ _ => NX)
  refine ret _ _ _ _ _ _ _ FX ?_ NX hwi2 hmb (by omega) (by omega)
  refine List.forall_mem_cons.mpr ⟨rfl, ?_⟩
  refine List.forall_mem_cons.mpr ⟨rfl, ?_⟩
  refine List.forall_mem_cons.mpr ⟨rfl, ?_⟩
  refine List.forall_mem_cons.mpr ⟨rfl, ?_⟩
  refine List.forall_mem_cons.mpr ⟨rfl, ?_⟩
  refine List.forall_mem_cons.mpr ⟨rfl, ?_⟩
  refine List.forall_mem_cons.mpr ⟨rfl, ?_⟩
  exact fun _ h => nomatch h
end
end Mine
end
section
open PySem PySem.W PySem.Calls PyProof.Rows PySem.Spec
set_option maxRecDepth 100000
set_option maxHeartbeats 8000000
namespace Mine
theorem resetEnsD {M : Model} {A : Around} {env : Env} {x : Str} {v : Value} {Q : Unit → Shared → Prop} {E : Value → Shared → Prop} {s : Shared} (h : wpAny M A (storeName env x v) Q E s) : wpAny M A (storeName env x v) Q E s := by
  w_top off
  k_with_none
  first
    | (walk1; fail)
    | exact h
local macro_rules | `(tactic| k_upd) => `(tactic| first | exact Pick.head | (refine' Pick.tail ?pp; (case pp => k_upd)))
local macro_rules | `(tactic| k_all) => `(tactic| assumption)
local macro_rules | `(tactic| k_room) => `(tactic| ktr_room)
local macro_rules | `(tactic| walk_at "call type:type") => `(tactic| refine call_type_of (PySem.W.typeIs_bytes _ _ _) (by decide +kernel) ?_)
local macro_rules | `(tactic| walk_at "call builtin:len") => `(tactic| (k_here; (with_reducible show wpAny _ _ (call (Value.builtin "len") [Value.ref _]) _ _ _); k_dflt (refine' len_baN ?N ?m ?z ?_; (case N => k_asm); (case m => k_mem); (case z => (first | assumption | exact Nat.le_trans (KBc.size_picked_le _ _ _) (by assumption))); k_whole); intro _ _))
local macro_rules | `(tactic| walk_at "call type:bytes") => `(tactic| (k_here; (with_reducible show wpAny _ _ (call (Value.type "bytes") [Value.ref _]) _ _ _); k_dflt (refine' bytes_baN ?N ?m ?z ?_; (case N => k_asm); (case m => k_mem); (case z => (first | assumption | exact Nat.le_trans (KBc.size_picked_le _ _ _) (by assumption))); k_whole); intro _ _))
local macro_rules | `(tactic| walk_at "subscriptTail") => `(tactic| (k_here; (with_reducible show wpAny _ _ (subscriptTail _ (Expr.Slice _ _ none _) (Value.ref _) (Value.ref _)) _ _ _); (with_reducible rename Fr _ _ _ _ => F'); (with_reducible rename News _ _ _ _ => N'); (refine cut_baN (s := ⟨_, _, _, _, _⟩) F' N' (by k_mem) (by constructor) (by constructor) (by (first | assumption | exact Nat.le_trans (KBc.size_picked_le _ _ _) (by assumption))) ?_); intro _ _ _ _ _))
local macro_rules | `(tactic| walk_at "call builtin:len") => `(tactic| (k_here; (with_reducible show wpAny _ _ (call (Value.builtin "len") [Value.bytes (rdB _ _ _) _]) _ _ _); refine len_bytes (Nat.le_trans rdB_le (by omega)) ?_))
local macro_rules | `(tactic| walk_at "call builtin:_struct.unpack") => `(tactic| (k_here; k_dflt (refine' unpackBN ?F ?N ?hb ?_; (case F => k_asm); (case N => k_asm); (case hb => assumption); k_whole); intro _ _ _ _ F' N' l1; (try k_lt l1)))
local macro_rules | `(tactic| walk_at "call type:enumerate") => `(tactic| (k_here; (with_reducible show wpAny _ _ (call (Value.type _) [Value.bytes _ _]) _ _ _); k_dflt (refine' call_enumB rfl ?hk ?F ?N ?_; (case hk => assumption); (case F => k_asm); (case N => k_asm); k_whole); intro _ _ F' N' S'))
local macro_rules | `(tactic| walk_at "pyReprObj bytes") => `(tactic| (k_here; (refine repr_bytes (by first | assumption | exact Nat.le_trans rdB_le (by omega)) (by first | assumption | exact literal_le (by first | omega | exact Nat.le_trans rdB_le (by omega))) ?_)))
local macro_rules | `(tactic| walk_at "call ref") => `(tactic| (k_here; k_dflt (first
  | ((with_reducible show wpAny _ _ (call (Value.ref 250) _) _ _ _); refine' tell_pk ?B ?F ?X ?T ?hk ?hd ?hu ?N ?P1 ?P2 ?_; (case F => k_asm); (case X => k_asm); (case T => k_asm); (case B => k_asm); (case hk => (first | assumption | rfl)); (case N => k_asm); (case hd => (first | omega | ((try simp only [depth_deeper, units_deeper, depth_in1, units_in1]); (try dsimp only [ktrTop]); omega))); (case hu => (first | omega | ((try simp only [depth_deeper, units_deeper, depth_in1, units_in1]); (try dsimp only [ktrTop]); omega))); (case P1 => k_upd); (case P2 => k_upd); k_whole; intro _ _ _ F' N')
  | ((with_reducible show wpAny _ _ (call (Value.ref 258) _) _ _ _); refine' end_pk ?B ?F ?X ?T ?hk ?hd ?hu ?hz ?N ?P1 ?P2 ?P3 ?n1 ?n2 ?n3 ?_; (case F => k_asm); (case X => k_asm); (case T => k_asm); (case B => k_asm); (case hk => (first | assumption | rfl)); (case N => k_asm); (case hd => (first | omega | ((try simp only [depth_deeper, units_deeper, depth_in1, units_in1]); (try dsimp only [ktrTop]); omega))); (case hu => (first | omega | ((try simp only [depth_deeper, units_deeper, depth_in1, units_in1]); (try dsimp only [ktrTop]); omega))); (case hz => assumption); (case P1 => k_upd); (case P2 => k_upd); (case P3 => k_upd); (case n1 => (first | assumption | k_ne)); (case n2 => (first | assumption | k_ne)); (case n3 => k_all); k_whole; intro _ _ _ _ F' N')
  | ((with_reducible show wpAny _ _ (call (Value.ref 258) _) _ _ _); refine' seek_pk ?B ?F ?X ?T ?hk ?hd ?hu ?h0 ?h1 ?N ?P1 ?P2 ?n1 ?n3 ?_; (case F => k_asm); (case X => k_asm); (case T => k_asm); (case B => k_asm); (case hk => (first | assumption | rfl)); (case N => k_asm); (case hd => (first | omega | ((try simp only [depth_deeper, units_deeper, depth_in1, units_in1]); (try dsimp only [ktrTop]); omega))); (case hu => (first | omega | ((try simp only [depth_deeper, units_deeper, depth_in1, units_in1]); (try dsimp only [ktrTop]); omega))); (case h0 => (first | omega | ((try simp only [depth_deeper, units_deeper, depth_in1, units_in1]); (try dsimp only [ktrTop]); omega))); (case h1 => (first | omega | ((try simp only [depth_deeper, units_deeper, depth_in1, units_in1]); (try dsimp only [ktrTop]); omega))); (case P1 => k_upd); (case P2 => k_upd); (case n1 => (first | assumption | k_ne)); (case n3 => k_all); k_whole; intro _ _ _ _ F' N')
  | ((with_reducible show wpAny _ _ (call (Value.ref 274) _) _ _ _); refine' read_pk ?B ?F ?X ?T ?hk ?hd ?hu ?h1 ?hp ?hz ?N ?P1 ?P2 ?P3 ?n1 ?n2 ?n3 ?_; (case F => k_asm); (case X => k_asm); (case T => k_asm); (case B => k_asm); (case hk => (first | assumption | rfl)); (case N => k_asm); (case hd => (first | omega | ((try simp only [depth_deeper, units_deeper, depth_in1, units_in1]); (try dsimp only [ktrTop]); omega))); (case hu => (first | omega | ((try simp only [depth_deeper, units_deeper, depth_in1, units_in1]); (try dsimp only [ktrTop]); omega))); (case h1 => (first | omega | ((try simp only [depth_deeper, units_deeper, depth_in1, units_in1]); (try dsimp only [ktrTop]); omega))); (case hp => (first | omega | ((try simp only [depth_deeper, units_deeper, depth_in1, units_in1]); (try dsimp only [ktrTop]); omega))); (case hz => assumption); (case P1 => k_upd); (case P2 => k_upd); (case P3 => k_upd); (case n1 => (first | assumption | k_ne)); (case n2 => (first | assumption | k_ne)); (case n3 => k_all); k_whole; intro _ _ _ _ F' N')
  | ((with_reducible show wpAny _ _ (call (Value.ref 274) _) _ _ _); refine' full_pk ?B ?F ?X ?T ?hk ?hd ?hu ?hp ?hz ?N ?P1 ?P2 ?P3 ?n1 ?n2 ?n3 ?_; (case F => k_asm); (case X => k_asm); (case T => k_asm); (case B => k_asm); (case hk => (first | assumption | rfl)); (case N => k_asm); (case hd => (first | omega | ((try simp only [depth_deeper, units_deeper, depth_in1, units_in1]); (try dsimp only [ktrTop]); omega))); (case hu => (first | omega | ((try simp only [depth_deeper, units_deeper, depth_in1, units_in1]); (try dsimp only [ktrTop]); omega))); (case hp => (first | omega | ((try simp only [depth_deeper, units_deeper, depth_in1, units_in1]); (try dsimp only [ktrTop]); omega))); (case hz => assumption); (case P1 => k_upd); (case P2 => k_upd); (case P3 => k_upd); (case n1 => (first | assumption | k_ne)); (case n2 => (first | assumption | k_ne)); (case n3 => k_all); k_whole; intro _ _ _ _ F' N'))))
theorem byteArr_inj : ∀ {xs ys : List Int}, (∀ n ∈ xs, 0 ≤ n ∧ n < 256) → (∀ n ∈ ys, 0 ≤ n ∧ n < 256) → (byteArr xs).toList = (byteArr ys).toList → xs = ys
  | [], [], _, _, _ => rfl
  | [], _ :: _, _, _, h => by simp [byteArr] at h
  | _ :: _, [], _, _, h => by simp [byteArr] at h
  | x :: xs, y :: ys, h1, h2, h => by
    have hc : x.toNat.toUInt8 = y.toNat.toUInt8 ∧ (byteArr xs).toList = (byteArr ys).toList := by simpa [byteArr] using h
    have e1 := u8_val (h1 x (List.mem_cons_self ..))
    have e2 := u8_val (h2 y (List.mem_cons_self ..))
    rw [hc.1] at e1
    rw [← e1, e2, byteArr_inj (fun n hn => h1 n (List.mem_cons_of_mem _ hn)) (fun n hn => h2 n (List.mem_cons_of_mem _ hn)) hc.2]
section
variable {w : World} {p : Program} {loose : List Str} {mean : ExcName → Option Value} {mg mb : Str → Option Value} {dp un : Nat} {gd : Option (List Code)} {a : Addr} {ccd : Value} {A₀ : Around} {base h₀ : Heap} {L : Addr} {s : Shared} {Qf : Flow → Shared → Prop} {Ef : Value → Shared → Prop}
theorem ens_C {σ : Sd} {β : Bd} {y e d R wl sl : Addr} {u1 u2 t ta te : Tok} {rs ws : List Int} {rvs wvs : List Value} {wc rc at_ : Nat} {wl2 : Addr} {wvs2 : List Value} {ms : List Int} {wc2 : Nat} {own : List (Addr × Obj)} {mm : Str → Option Value} 
    (hd : dp ≤ 310) (hu : un ≤ 100) (XB : (K w.params).In base) (TB : Top p loose mean mg mb base) (B : Below A₀ base [] h₀) (KX : (K w.params).In h₀) (T : Top p loose mean mg mb h₀)
    (F : Fr h₀ L s.heap (fun z => if z = Str.ofString "wanted" then some (.ref wl2)
      else if z = Str.ofString "at" then some (.int (at_ : Int) ta) else if z = Str.ofString "waiting" then some (.ref wl) else if z = Str.ofString "row" then some (.ref R) else if z = Str.ofString "stream" then some (.ref y) else if z = Str.ofString "extent" then some (.int (rs.length : Nat) te)
      else if z = Str.ofString "script" then some (.ref sl) else mm z))
    (N : News h₀ L s.heap ((wl2, PySem.W.listOf wvs2.toArray wc2) :: (y, instObj 1075 e) :: (e, sdict w σ (ws.length : Nat) u1 (wo ws) u2) :: (σ.io, instObj 350 d) :: (d, bdict w β (at_ : Int) t) :: (β.ba, baObj (byteArr rs)) :: (R, PySem.W.listOf rvs.toArray rc) :: (wl, PySem.W.listOf wvs.toArray wc) :: own)) (hwi2 : IntsAre wvs2 ms) (hmb : ∀ n ∈ ms, 0 ≤ n ∧ n < 256)
    (hown : ∀ p ∈ own, p.2.cls ≠ .type "dict")
    (ap : Ap y e σ.io d β.ba ((R, PySem.W.listOf rvs.toArray rc) :: (wl, PySem.W.listOf wvs.toArray wc) :: own))
    (hri : IntsAre rvs rs) (hrb : ∀ n ∈ rs, 0 ≤ n ∧ n < 256) (hrl : rs.length ≤ 14) (hrl2 : 2 ≤ rs.length) (hwi : IntsAre wvs ws) (hwb : ∀ n ∈ ws, 0 ≤ n ∧ n ≤ 1) (hwn : ws.length < 8) (hat : at_ ≤ rs.length + 1) (hm1 : 1 ≤ ms.length) (hm2 : ms.length ≤ 5) (ret : ∀ h' tk m' th (tvs : List Value), Fr h₀ L h' m' → Has m' [(Str.ofString "there", .ref th), (Str.ofString "wanted", .ref wl2), (Str.ofString "at", .int (at_ : Int) ta), (Str.ofString "waiting", .ref wl), (Str.ofString "row", .ref R), (Str.ofString "stream", .ref y), (Str.ofString "extent", .int (rs.length : Nat) te), (Str.ofString "script", .ref sl)] → News h₀ L h' ((th, PySem.W.listOf tvs.toArray 0) :: (wl2, PySem.W.listOf wvs2.toArray wc2) :: (y, instObj 1075 e) :: (e, sdict w σ (ws.length : Nat) u1 (wo ws) u2) :: (σ.io, instObj 350 d) :: (d, bdict w β (at_ : Int) t) :: (β.ba, baObj (byteArr rs)) :: (R, PySem.W.listOf rvs.toArray rc) :: (wl, PySem.W.listOf wvs.toArray wc) :: own) → IntsAre tvs ((rs.drop at_).take ms.length) → Qf .next { s with heap := h', toks := tk }) :
    wpAny (model prog w) (ktrTop dp un gd lawRec.name lawRec.scope L a ccd [] []) (execs ((ensBody.drop 5).take 1) (envX lawRec.name lawRec.scope L a ccd [])) Qf Ef s := by
  obtain ⟨ap1, ap2, ap3, ap4, ap5, ap6, ap7, ap8, ap9⟩ := ap
  have ao8 : ∀ p ∈ own, p.1 ≠ e := fun p hp => ap8 p (.tail _ (.tail _ hp))
  have ao9 : ∀ p ∈ own, p.1 ≠ d := fun p hp => ap9 p (.tail _ (.tail _ hp))
  have ar8 := ap8 _ (.head _)
  have ar9 := ap9 _ (.head _)
  have aw8 := ap8 _ (.tail _ (.head _))
  have aw9 := ap9 _ (.tail _ (.head _))
  clear ap8 ap9
  dsimp only at ar8 ar9 aw8 aw9
  replace ap1 := neN ap1
  replace ap2 := neN ap2
  replace ap3 := neN ap3
  replace ap4 := neN ap4
  replace ap5 := neN ap5
  replace ap6 := neN ap6
  replace ap7 := neN ap7
  replace ar8 := neN ar8
  replace ar9 := neN ar9
  replace aw8 := neN aw8
  replace aw9 := neN aw9
  have hdr : dp + 400 < recursionLimit := Nat.lt_of_le_of_lt (Nat.add_le_add_right hd 400) (by decide)
  have hur : un + 4000 < cLine := Nat.lt_of_le_of_lt (Nat.add_le_add_right hu 4000) (by decide)
  have hbs : (byteArr rs).size = rs.length := by simp [byteArr]
  have hbz : (byteArr rs).size ≤ 16777216 := by omega
  k_steps
  dsimp only [List.take]
  refine wpAny_execs_nil ?_
  (rename IntsAre _ (List.take _ _) => hI)
  rw [show ((at_ : Int) + (ms.length : Int)).toNat = at_ + ms.length by omega, show (at_ : Int).toNat = at_ by omega, slice_take] at hI
  (rename Fr _ _ _ _ => FX)
  (rename News _ _ _ _ => NX)
  refine ret _ _ _ _ _ FX ?_ NX hI
  refine List.forall_mem_cons.mpr ⟨rfl, ?_⟩
  refine List.forall_mem_cons.mpr ⟨rfl, ?_⟩
  refine List.forall_mem_cons.mpr ⟨rfl, ?_⟩
  refine List.forall_mem_cons.mpr ⟨rfl, ?_⟩
  refine List.forall_mem_cons.mpr ⟨rfl, ?_⟩
  refine List.forall_mem_cons.mpr ⟨rfl, ?_⟩
  refine List.forall_mem_cons.mpr ⟨rfl, ?_⟩
  refine List.forall_mem_cons.mpr ⟨rfl, ?_⟩
  exact fun _ h => nomatch h
local macro_rules | `(tactic| walk_at "call ref") => `(tactic| (k_here; (with_reducible show wpAny _ _ (call (Value.ref 1150) _) _ _ _); refine stop_here ?_))
local macro_rules | `(tactic| walk_at "call ref") => `(tactic| (k_here; (with_reducible show wpAny _ _ (call (Value.ref 1190) _) _ _ _); refine stop_here ?_))
local macro_rules | `(tactic| walk_at "compareOp NotEq ref ref") => `(tactic| (k_here; refine stop_here ?_))
local macro_rules | `(tactic| walk_at "exec If") => `(tactic| refine wpAny_If ?_)
theorem ens_D1 {σ : Sd} {β : Bd} {y e d R wl sl : Addr} {u1 u2 t ta te : Tok} {rs ws : List Int} {rvs wvs : List Value} {wc rc at_ : Nat} {wl2 : Addr} {wvs2 : List Value} {ms ths : List Int} {th : Addr} {tvs : List Value} {wc2 : Nat} {own : List (Addr × Obj)} {mm : Str → Option Value} 
    (hd : dp ≤ 310) (hu : un ≤ 100) (XB : (K w.params).In base) (TB : Top p loose mean mg mb base) (B : Below A₀ base [] h₀) (KX : (K w.params).In h₀) (T : Top p loose mean mg mb h₀)
    (F : Fr h₀ L s.heap (fun z => if z = Str.ofString "there" then some (.ref th) else if z = Str.ofString "wanted" then some (.ref wl2)
      else if z = Str.ofString "at" then some (.int (at_ : Int) ta) else if z = Str.ofString "waiting" then some (.ref wl) else if z = Str.ofString "row" then some (.ref R) else if z = Str.ofString "stream" then some (.ref y) else if z = Str.ofString "extent" then some (.int (rs.length : Nat) te)
      else if z = Str.ofString "script" then some (.ref sl) else mm z))
    (N : News h₀ L s.heap ((th, PySem.W.listOf tvs.toArray 0) :: (wl2, PySem.W.listOf wvs2.toArray wc2) :: (y, instObj 1075 e) :: (e, sdict w σ (ws.length : Nat) u1 (wo ws) u2) :: (σ.io, instObj 350 d) :: (d, bdict w β (at_ : Int) t) :: (β.ba, baObj (byteArr rs)) :: (R, PySem.W.listOf rvs.toArray rc) :: (wl, PySem.W.listOf wvs.toArray wc) :: own)) (hshI : IntsAre tvs ths) (hwi2 : IntsAre wvs2 ms) (hmb : ∀ n ∈ ms, 0 ≤ n ∧ n < 256)
    (hown : ∀ p ∈ own, p.2.cls ≠ .type "dict")
    (ap : Ap y e σ.io d β.ba ((R, PySem.W.listOf rvs.toArray rc) :: (wl, PySem.W.listOf wvs.toArray wc) :: own))
    (hri : IntsAre rvs rs) (hrb : ∀ n ∈ rs, 0 ≤ n ∧ n < 256) (hrl : rs.length ≤ 14) (hrl2 : 2 ≤ rs.length) (hwi : IntsAre wvs ws) (hwb : ∀ n ∈ ws, 0 ≤ n ∧ n ≤ 1) (hwn : ws.length < 8) (hat : at_ ≤ rs.length + 1) (hm1 : 1 ≤ ms.length) (hm2 : ms.length ≤ 5) (hths : (rs.drop at_).take ms.length = ths) (hsame : ths = ms) :
    wpAny (model prog w) (ktrTop dp un gd lawRec.name lawRec.scope L a ccd [] []) (execs (ensBody.drop 6) (envX lawRec.name lawRec.scope L a ccd [])) (Mid w h₀ L σ β y e d R sl te rs rvs rc own s) Ef s := by
  obtain ⟨ap1, ap2, ap3, ap4, ap5, ap6, ap7, ap8, ap9⟩ := ap
  have ao8 : ∀ p ∈ own, p.1 ≠ e := fun p hp => ap8 p (.tail _ (.tail _ hp))
  have ao9 : ∀ p ∈ own, p.1 ≠ d := fun p hp => ap9 p (.tail _ (.tail _ hp))
  have ar8 := ap8 _ (.head _)
  have ar9 := ap9 _ (.head _)
  have aw8 := ap8 _ (.tail _ (.head _))
  have aw9 := ap9 _ (.tail _ (.head _))
  clear ap8 ap9
  dsimp only at ar8 ar9 aw8 aw9
  replace ap1 := neN ap1
  replace ap2 := neN ap2
  replace ap3 := neN ap3
  replace ap4 := neN ap4
  replace ap5 := neN ap5
  replace ap6 := neN ap6
  replace ap7 := neN ap7
  replace ar8 := neN ar8
  replace ar9 := neN ar9
  replace aw8 := neN aw8
  replace aw9 := neN aw9
  have hdr : dp + 400 < recursionLimit := Nat.lt_of_le_of_lt (Nat.add_le_add_right hd 400) (by decide)
  have hur : un + 4000 < cLine := Nat.lt_of_le_of_lt (Nat.add_le_add_right hu 4000) (by decide)
  have hbs : (byteArr rs).size = rs.length := by simp [byteArr]
  have hbz : (byteArr rs).size ≤ 16777216 := by omega
  have hshB : ∀ k ∈ ths, 0 ≤ k ∧ k < 256 := fun k hk => hrb k (List.mem_of_mem_drop (List.mem_of_mem_take (hths ▸ hk)))
  have hshL : ths.length = min ms.length (rs.length - at_) := by rw [← hths, List.length_take, List.length_drop]
  have hsl : ths.length ≤ 5 := by omega
  have hmz : (byteArr ms).size = ms.length := by simp [byteArr]
  have hx : (byteArr ms).size ≤ 1000 := by omega
  have hrd : rdB (byteArr rs) at_ (byteArr ms).size = byteArr ths := by rw [hmz, ← hths]; exact rdB_byteArr
  have hrp : rdP (byteArr rs).size at_ (byteArr ms).size = at_ + ths.length := by
    rw [hmz, hshL, hbs]; unfold rdP; split <;> omega
  have hatl : at_ + ths.length ≤ rs.length + 1 := by omega
  have heq : rdB (byteArr rs) at_ (byteArr ms).size = byteArr ms := by rw [hrd, hsame]
  k_steps
  refine Stop.mk ?_
  (rename News _ _ _ _ => N8)
  k_dflt refine' ke_ne_ints (isl N8 (by k_mem)) (isl N8 (by k_mem)) hshI hwi2 ?room ?_
  case room => (first | omega | ((try simp only [depth_deeper, units_deeper, depth_in1, units_in1]); (try dsimp only [ktrTop]); omega))
  rw [decide_eq_true hsame]
  k_whole
  k_steps
  refine Stop.mk ?_
  k_dflt refine' check_ok ?B ?F ?X ?T ?XB ?TB ?hk ?hd ?hu ?hp ?hz ?hw ?hr ?hlen ?hx ?heq ?N0 ?P1 ?P2 ?P3 ?P4 ?P5 ?P6 ?ap ?_
  case F => k_asm
  case X => k_asm
  case T => k_asm
  case B => k_asm
  case XB => k_asm
  case TB => k_asm
  case hk => (first | assumption | rfl)
  case N0 => k_asm
  case P1 => k_upd
  case P2 => k_upd
  case P3 => k_upd
  case P4 => k_upd
  case P5 => k_upd
  case P6 => k_upd
  case ap => (refine apOf (by k_asm) (by k_mem) (by k_mem) (by k_mem) (by k_mem) (by k_mem) ?_; (repeat refine List.forall_mem_cons.mpr ⟨⟨by k_mem, list_nd⟩, ?_⟩); (intro p hp; refine ⟨?_, hown p hp⟩; (repeat (first | exact hp | refine List.Mem.tail _ ?_))))
  case hz => assumption
  case hw => exact hwi2
  case hr => exact hmb
  case hx => assumption
  case heq => assumption
  case hd => (first | omega | ((try simp only [depth_deeper, units_deeper, depth_in1, units_in1]); (try dsimp only [ktrTop]); omega))
  case hu => (first | omega | ((try simp only [depth_deeper, units_deeper, depth_in1, units_in1]); (try dsimp only [ktrTop]); omega))
  case hp => (first | omega | ((try simp only [depth_deeper, units_deeper, depth_in1, units_in1]); (try dsimp only [ktrTop]); omega))
  case hlen => omega
  k_whole
  intro h6 tk6 D7 t7 w1 w2 F6 N6
  k_steps
  refine Stop.mk ?_
  (rename News _ _ _ _ => N8)
  k_dflt refine' ne_same N8 (by k_mem) (by k_mem) (.cons (.str _ _ rfl) (.cons (.bytes _ _ (by rw [hsame])) .nil)) ?room ?_
  case room => (first | omega | ((try simp only [depth_deeper, units_deeper, depth_in1, units_in1]); (try dsimp only [ktrTop]); omega))
  k_whole
  k_steps
  (rename Fr _ _ _ _ => F9)
  (rename News _ _ _ _ => N9)
  rw [hrp] at N9
  rw [show ((at_ : Int) + (ths.length : Int)) = ((at_ + ths.length : Nat) : Int) by omega] at F9
  exact ⟨rfl, _, _, _, _, _, _, _, _, _, _, _, rfl, F9, ⟨⟨_, rfl⟩, rfl, rfl, rfl, rfl, rfl, hwi, hwb, hwn, hatl⟩, news_sub N9 (by ((repeat refine sub_cons (by k_mem) ?_); (repeat first | exact sub_self | exact sub_nil | refine sub_up ?_)))⟩
end
end Mine
end
section
open PySem PySem.W PySem.Calls PyProof.Rows PySem.Spec
set_option maxRecDepth 100000
set_option maxHeartbeats 8000000
namespace Mine
theorem resetEnsE {M : Model} {A : Around} {env : Env} {x : Str} {v : Value} {Q : Unit → Shared → Prop} {E : Value → Shared → Prop} {s : Shared} (h : wpAny M A (storeName env x v) Q E s) : wpAny M A (storeName env x v) Q E s := by
  w_top off
  k_with_none
  first
    | (walk1; fail)
    | exact h
local macro_rules | `(tactic| k_upd) => `(tactic| first | exact Pick.head | (refine' Pick.tail ?pp; (case pp => k_upd)))
local macro_rules | `(tactic| k_all) => `(tactic| assumption)
local macro_rules | `(tactic| k_room) => `(tactic| ktr_room)
local macro_rules | `(tactic| walk_at "call type:type") => `(tactic| refine call_type_of (PySem.W.typeIs_bytes _ _ _) (by decide +kernel) ?_)
local macro_rules | `(tactic| walk_at "call builtin:len") => `(tactic| (k_here; (with_reducible show wpAny _ _ (call (Value.builtin "len") [Value.ref _]) _ _ _); k_dflt (refine' len_baN ?N ?m ?z ?_; (case N => k_asm); (case m => k_mem); (case z => (first | assumption | exact Nat.le_trans (KBc.size_picked_le _ _ _) (by assumption))); k_whole); intro _ _))
local macro_rules | `(tactic| walk_at "call type:bytes") => `(tactic| (k_here; (with_reducible show wpAny _ _ (call (Value.type "bytes") [Value.ref _]) _ _ _); k_dflt (refine' bytes_baN ?N ?m ?z ?_; (case N => k_asm); (case m => k_mem); (case z => (first | assumption | exact Nat.le_trans (KBc.size_picked_le _ _ _) (by assumption))); k_whole); intro _ _))
local macro_rules | `(tactic| walk_at "subscriptTail") => `(tactic| (k_here; (with_reducible show wpAny _ _ (subscriptTail _ (Expr.Slice _ _ none _) (Value.ref _) (Value.ref _)) _ _ _); (with_reducible rename Fr _ _ _ _ => F'); (with_reducible rename News _ _ _ _ => N'); (refine cut_baN (s := ⟨_, _, _, _, _⟩) F' N' (by k_mem) (by constructor) (by constructor) (by (first | assumption | exact Nat.le_trans (KBc.size_picked_le _ _ _) (by assumption))) ?_); intro _ _ _ _ _))
local macro_rules | `(tactic| walk_at "call builtin:len") => `(tactic| (k_here; (with_reducible show wpAny _ _ (call (Value.builtin "len") [Value.bytes (rdB _ _ _) _]) _ _ _); refine len_bytes (Nat.le_trans rdB_le (by omega)) ?_))
local macro_rules | `(tactic| walk_at "call builtin:_struct.unpack") => `(tactic| (k_here; k_dflt (refine' unpackBN ?F ?N ?hb ?_; (case F => k_asm); (case N => k_asm); (case hb => assumption); k_whole); intro _ _ _ _ F' N' l1; (try k_lt l1)))
local macro_rules | `(tactic| walk_at "call type:enumerate") => `(tactic| (k_here; (with_reducible show wpAny _ _ (call (Value.type _) [Value.bytes _ _]) _ _ _); k_dflt (refine' call_enumB rfl ?hk ?F ?N ?_; (case hk => assumption); (case F => k_asm); (case N => k_asm); k_whole); intro _ _ F' N' S'))
local macro_rules | `(tactic| walk_at "pyReprObj bytes") => `(tactic| (k_here; (refine repr_bytes (by first | assumption | exact Nat.le_trans rdB_le (by omega)) (by first | assumption | exact literal_le (by first | omega | exact Nat.le_trans rdB_le (by omega))) ?_)))
local macro_rules | `(tactic| walk_at "call ref") => `(tactic| (k_here; k_dflt (first
  | ((with_reducible show wpAny _ _ (call (Value.ref 250) _) _ _ _); refine' tell_pk ?B ?F ?X ?T ?hk ?hd ?hu ?N ?P1 ?P2 ?_; (case F => k_asm); (case X => k_asm); (case T => k_asm); (case B => k_asm); (case hk => (first | assumption | rfl)); (case N => k_asm); (case hd => (first | omega | ((try simp only [depth_deeper, units_deeper, depth_in1, units_in1]); (try dsimp only [ktrTop]); omega))); (case hu => (first | omega | ((try simp only [depth_deeper, units_deeper, depth_in1, units_in1]); (try dsimp only [ktrTop]); omega))); (case P1 => k_upd); (case P2 => k_upd); k_whole; intro _ _ _ F' N')
  | ((with_reducible show wpAny _ _ (call (Value.ref 258) _) _ _ _); refine' end_pk ?B ?F ?X ?T ?hk ?hd ?hu ?hz ?N ?P1 ?P2 ?P3 ?n1 ?n2 ?n3 ?_; (case F => k_asm); (case X => k_asm); (case T => k_asm); (case B => k_asm); (case hk => (first | assumption | rfl)); (case N => k_asm); (case hd => (first | omega | ((try simp only [depth_deeper, units_deeper, depth_in1, units_in1]); (try dsimp only [ktrTop]); omega))); (case hu => (first | omega | ((try simp only [depth_deeper, units_deeper, depth_in1, units_in1]); (try dsimp only [ktrTop]); omega))); (case hz => assumption); (case P1 => k_upd); (case P2 => k_upd); (case P3 => k_upd); (case n1 => (first | assumption | k_ne)); (case n2 => (first | assumption | k_ne)); (case n3 => k_all); k_whole; intro _ _ _ _ F' N')
  | ((with_reducible show wpAny _ _ (call (Value.ref 258) _) _ _ _); refine' seek_pk ?B ?F ?X ?T ?hk ?hd ?hu ?h0 ?h1 ?N ?P1 ?P2 ?n1 ?n3 ?_; (case F => k_asm); (case X => k_asm); (case T => k_asm); (case B => k_asm); (case hk => (first | assumption | rfl)); (case N => k_asm); (case hd => (first | omega | ((try simp only [depth_deeper, units_deeper, depth_in1, units_in1]); (try dsimp only [ktrTop]); omega))); (case hu => (first | omega | ((try simp only [depth_deeper, units_deeper, depth_in1, units_in1]); (try dsimp only [ktrTop]); omega))); (case h0 => (first | omega | ((try simp only [depth_deeper, units_deeper, depth_in1, units_in1]); (try dsimp only [ktrTop]); omega))); (case h1 => (first | omega | ((try simp only [depth_deeper, units_deeper, depth_in1, units_in1]); (try dsimp only [ktrTop]); omega))); (case P1 => k_upd); (case P2 => k_upd); (case n1 => (first | assumption | k_ne)); (case n3 => k_all); k_whole; intro _ _ _ _ F' N')
  | ((with_reducible show wpAny _ _ (call (Value.ref 274) _) _ _ _); refine' read_pk ?B ?F ?X ?T ?hk ?hd ?hu ?h1 ?hp ?hz ?N ?P1 ?P2 ?P3 ?n1 ?n2 ?n3 ?_; (case F => k_asm); (case X => k_asm); (case T => k_asm); (case B => k_asm); (case hk => (first | assumption | rfl)); (case N => k_asm); (case hd => (first | omega | ((try simp only [depth_deeper, units_deeper, depth_in1, units_in1]); (try dsimp only [ktrTop]); omega))); (case hu => (first | omega | ((try simp only [depth_deeper, units_deeper, depth_in1, units_in1]); (try dsimp only [ktrTop]); omega))); (case h1 => (first | omega | ((try simp only [depth_deeper, units_deeper, depth_in1, units_in1]); (try dsimp only [ktrTop]); omega))); (case hp => (first | omega | ((try simp only [depth_deeper, units_deeper, depth_in1, units_in1]); (try dsimp only [ktrTop]); omega))); (case hz => assumption); (case P1 => k_upd); (case P2 => k_upd); (case P3 => k_upd); (case n1 => (first | assumption | k_ne)); (case n2 => (first | assumption | k_ne)); (case n3 => k_all); k_whole; intro _ _ _ _ F' N')
  | ((with_reducible show wpAny _ _ (call (Value.ref 274) _) _ _ _); refine' full_pk ?B ?F ?X ?T ?hk ?hd ?hu ?hp ?hz ?N ?P1 ?P2 ?P3 ?n1 ?n2 ?n3 ?_; (case F => k_asm); (case X => k_asm); (case T => k_asm); (case B => k_asm); (case hk => (first | assumption | rfl)); (case N => k_asm); (case hd => (first | omega | ((try simp only [depth_deeper, units_deeper, depth_in1, units_in1]); (try dsimp only [ktrTop]); omega))); (case hu => (first | omega | ((try simp only [depth_deeper, units_deeper, depth_in1, units_in1]); (try dsimp only [ktrTop]); omega))); (case hp => (first | omega | ((try simp only [depth_deeper, units_deeper, depth_in1, units_in1]); (try dsimp only [ktrTop]); omega))); (case hz => assumption); (case P1 => k_upd); (case P2 => k_upd); (case P3 => k_upd); (case n1 => (first | assumption | k_ne)); (case n2 => (first | assumption | k_ne)); (case n3 => k_all); k_whole; intro _ _ _ _ F' N'))))
section
variable {w : World} {p : Program} {loose : List Str} {mean : ExcName → Option Value} {mg mb : Str → Option Value} {dp un : Nat} {gd : Option (List Code)} {a : Addr} {ccd : Value} {A₀ : Around} {base h₀ : Heap} {L : Addr} {s : Shared} {Qf : Flow → Shared → Prop} {Ef : Value → Shared → Prop}
local macro_rules | `(tactic| walk_at "call ref") => `(tactic| (k_here; (with_reducible show wpAny _ _ (call (Value.ref 1150) _) _ _ _); refine stop_here ?_))
local macro_rules | `(tactic| walk_at "call ref") => `(tactic| (k_here; (with_reducible show wpAny _ _ (call (Value.ref 1190) _) _ _ _); refine stop_here ?_))
local macro_rules | `(tactic| walk_at "compareOp NotEq ref ref") => `(tactic| (k_here; refine stop_here ?_))
local macro_rules | `(tactic| walk_at "exec If") => `(tactic| refine wpAny_If ?_)
theorem ens_D2 {σ : Sd} {β : Bd} {y e d R wl sl : Addr} {u1 u2 t ta te : Tok} {rs ws : List Int} {rvs wvs : List Value} {wc rc at_ : Nat} {wl2 : Addr} {wvs2 : List Value} {ms ths : List Int} {th : Addr} {tvs : List Value} {wc2 : Nat} {own : List (Addr × Obj)} {mm : Str → Option Value} 
    (hd : dp ≤ 310) (hu : un ≤ 100) (XB : (K w.params).In base) (TB : Top p loose mean mg mb base) (B : Below A₀ base [] h₀) (KX : (K w.params).In h₀) (T : Top p loose mean mg mb h₀)
    (F : Fr h₀ L s.heap (fun z => if z = Str.ofString "there" then some (.ref th) else if z = Str.ofString "wanted" then some (.ref wl2)
      else if z = Str.ofString "at" then some (.int (at_ : Int) ta) else if z = Str.ofString "waiting" then some (.ref wl) else if z = Str.ofString "row" then some (.ref R) else if z = Str.ofString "stream" then some (.ref y) else if z = Str.ofString "extent" then some (.int (rs.length : Nat) te)
      else if z = Str.ofString "script" then some (.ref sl) else mm z))
    (N : News h₀ L s.heap ((th, PySem.W.listOf tvs.toArray 0) :: (wl2, PySem.W.listOf wvs2.toArray wc2) :: (y, instObj 1075 e) :: (e, sdict w σ (ws.length : Nat) u1 (wo ws) u2) :: (σ.io, instObj 350 d) :: (d, bdict w β (at_ : Int) t) :: (β.ba, baObj (byteArr rs)) :: (R, PySem.W.listOf rvs.toArray rc) :: (wl, PySem.W.listOf wvs.toArray wc) :: own)) (hshI : IntsAre tvs ths) (hwi2 : IntsAre wvs2 ms) (hmb : ∀ n ∈ ms, 0 ≤ n ∧ n < 256)
    (hown : ∀ p ∈ own, p.2.cls ≠ .type "dict")
    (ap : Ap y e σ.io d β.ba ((R, PySem.W.listOf rvs.toArray rc) :: (wl, PySem.W.listOf wvs.toArray wc) :: own))
    (hri : IntsAre rvs rs) (hrb : ∀ n ∈ rs, 0 ≤ n ∧ n < 256) (hrl : rs.length ≤ 14) (hrl2 : 2 ≤ rs.length) (hwi : IntsAre wvs ws) (hwb : ∀ n ∈ ws, 0 ≤ n ∧ n ≤ 1) (hwn : ws.length < 8) (hat : at_ ≤ rs.length + 1) (hm1 : 1 ≤ ms.length) (hm2 : ms.length ≤ 5) (hths : (rs.drop at_).take ms.length = ths) (hsame : ths ≠ ms) :
    wpAny (model prog w) (ktrTop dp un gd lawRec.name lawRec.scope L a ccd [] []) (execs (ensBody.drop 6) (envX lawRec.name lawRec.scope L a ccd [])) (Mid w h₀ L σ β y e d R sl te rs rvs rc own s) Ef s := by
  obtain ⟨ap1, ap2, ap3, ap4, ap5, ap6, ap7, ap8, ap9⟩ := ap
  have ao8 : ∀ p ∈ own, p.1 ≠ e := fun p hp => ap8 p (.tail _ (.tail _ hp))
  have ao9 : ∀ p ∈ own, p.1 ≠ d := fun p hp => ap9 p (.tail _ (.tail _ hp))
  have ar8 := ap8 _ (.head _)
  have ar9 := ap9 _ (.head _)
  have aw8 := ap8 _ (.tail _ (.head _))
  have aw9 := ap9 _ (.tail _ (.head _))
  clear ap8 ap9
  dsimp only at ar8 ar9 aw8 aw9
  replace ap1 := neN ap1
  replace ap2 := neN ap2
  replace ap3 := neN ap3
  replace ap4 := neN ap4
  replace ap5 := neN ap5
  replace ap6 := neN ap6
  replace ap7 := neN ap7
  replace ar8 := neN ar8
  replace ar9 := neN ar9
  replace aw8 := neN aw8
  replace aw9 := neN aw9
  have hdr : dp + 400 < recursionLimit := Nat.lt_of_le_of_lt (Nat.add_le_add_right hd 400) (by decide)
  have hur : un + 4000 < cLine := Nat.lt_of_le_of_lt (Nat.add_le_add_right hu 4000) (by decide)
  have hbs : (byteArr rs).size = rs.length := by simp [byteArr]
  have hbz : (byteArr rs).size ≤ 16777216 := by omega
  have hshB : ∀ k ∈ ths, 0 ≤ k ∧ k < 256 := fun k hk => hrb k (List.mem_of_mem_drop (List.mem_of_mem_take (hths ▸ hk)))
  have hshL : ths.length = min ms.length (rs.length - at_) := by rw [← hths, List.length_take, List.length_drop]
  have hsl : ths.length ≤ 5 := by omega
  have hmz : (byteArr ms).size = ms.length := by simp [byteArr]
  have hx : (byteArr ms).size ≤ 1000 := by omega
  have hrd : rdB (byteArr rs) at_ (byteArr ms).size = byteArr ths := by rw [hmz, ← hths]; exact rdB_byteArr
  have hrp : rdP (byteArr rs).size at_ (byteArr ms).size = at_ + ths.length := by
    rw [hmz, hshL, hbs]; unfold rdP; split <;> omega
  have hatl : at_ + ths.length ≤ rs.length + 1 := by omega
  have hz1 := shown_len ths
  have hz2 := shown_len ms
  have hz3 : (shownTxt ths).length ≤ 40 := by omega
  have hz4 : (shownTxt ms).length ≤ 40 := by omega
  clear hz1 hz2
  have hl1 : (PySem.Builtin.Bytes.literal (rdB (byteArr rs) at_ (byteArr ms).size)).length ≤ 5000 := by rw [hrd, literal_eq hshB]; omega
  have hl2 : (PySem.Builtin.Bytes.literal (byteArr ms)).length ≤ 5000 := by rw [literal_eq hmb]; omega
  have hne : ((rdB (byteArr rs) at_ (byteArr ms).size).toList != (byteArr ms).toList) = true := by
    rw [hrd, bne_iff_ne]; exact fun h => hsame (byteArr_inj hshB hmb h)
  have hg1 : (Str.ofString "unexpected fixed contents: got ").length = 31 := by decide +kernel
  have hg2 : (Str.ofString ", was waiting for ").length = 18 := by decide +kernel
  k_steps
  refine Stop.mk ?_
  (rename News _ _ _ _ => N8)
  k_dflt refine' ke_ne_ints (isl N8 (by k_mem)) (isl N8 (by k_mem)) hshI hwi2 ?room ?_
  case room => (first | omega | ((try simp only [depth_deeper, units_deeper, depth_in1, units_in1]); (try dsimp only [ktrTop]); omega))
  rw [decide_eq_false hsame]
  k_whole
  k_steps
  refine Stop.mk ?_
  k_dflt refine' shown_spec ?B ?F ?X ?T ?hk ?hd ?hu ?hi ?hb ?hl ?N ?hm ?_
  case F => k_asm
  case X => k_asm
  case T => k_asm
  case B => k_asm
  case hk => (first | assumption | rfl)
  case N => k_asm
  case hi => exact hshI
  case hb => exact hshB
  case hm => k_mem
  case hd => (first | omega | ((try simp only [depth_deeper, units_deeper, depth_in1, units_in1]); (try dsimp only [ktrTop]); omega))
  case hu => (first | omega | ((try simp only [depth_deeper, units_deeper, depth_in1, units_in1]); (try dsimp only [ktrTop]); omega))
  case hl => omega
  k_whole
  intro h5 tk5 t5 F5 N5
  k_steps
  refine Stop.mk ?_
  k_dflt refine' shown_spec ?B ?F ?X ?T ?hk ?hd ?hu ?hi ?hb ?hl ?N ?hm ?_
  case F => k_asm
  case X => k_asm
  case T => k_asm
  case B => k_asm
  case hk => (first | assumption | rfl)
  case N => k_asm
  case hi => exact hwi2
  case hb => exact hmb
  case hm => k_mem
  case hd => (first | omega | ((try simp only [depth_deeper, units_deeper, depth_in1, units_in1]); (try dsimp only [ktrTop]); omega))
  case hu => (first | omega | ((try simp only [depth_deeper, units_deeper, depth_in1, units_in1]); (try dsimp only [ktrTop]); omega))
  case hl => omega
  k_whole
  intro h5 tk5 t5 F5 N5
  k_steps
  refine Stop.mk ?_
  k_dflt refine' check_bad ?B ?F ?X ?T ?XB ?TB ?hk ?hd ?hu ?hp ?hz ?hw ?hr ?hlen ?hx ?hne ?hl1 ?hl2 ?N0 ?P1 ?P2 ?P3 ?P4 ?P5 ?P6 ?ap ?_
  case F => k_asm
  case X => k_asm
  case T => k_asm
  case B => k_asm
  case XB => k_asm
  case TB => k_asm
  case hk => (first | assumption | rfl)
  case N0 => k_asm
  case P1 => k_upd
  case P2 => k_upd
  case P3 => k_upd
  case P4 => k_upd
  case P5 => k_upd
  case P6 => k_upd
  case ap => (refine apOf (by k_asm) (by k_mem) (by k_mem) (by k_mem) (by k_mem) (by k_mem) ?_; (repeat refine List.forall_mem_cons.mpr ⟨⟨by k_mem, list_nd⟩, ?_⟩); (intro p hp; refine ⟨?_, hown p hp⟩; (repeat (first | exact hp | refine List.Mem.tail _ ?_))))
  case hz => assumption
  case hw => exact hwi2
  case hr => exact hmb
  case hx => assumption
  case hne => assumption
  case hl1 => assumption
  case hl2 => assumption
  case hd => (first | omega | ((try simp only [depth_deeper, units_deeper, depth_in1, units_in1]); (try dsimp only [ktrTop]); omega))
  case hu => (first | omega | ((try simp only [depth_deeper, units_deeper, depth_in1, units_in1]); (try dsimp only [ktrTop]); omega))
  case hp => (first | omega | ((try simp only [depth_deeper, units_deeper, depth_in1, units_in1]); (try dsimp only [ktrTop]); omega))
  case hlen => omega
  k_whole
  intro h6 tk6 D7 t7 w1 w2 F6 N6
  k_steps
  refine Stop.mk ?_
  (rename News _ _ _ _ => N8)
  k_dflt refine' ne_same N8 (by k_mem) (by k_mem) (.cons (.str _ _ rfl) (.cons (.str _ _ (by unfold badTxt; rw [hrd, literal_eq hshB, literal_eq hmb])) .nil)) ?room ?_
  case room => (first | omega | ((try simp only [depth_deeper, units_deeper, depth_in1, units_in1]); (try dsimp only [ktrTop]); omega))
  k_whole
  k_steps
  (rename Fr _ _ _ _ => F9)
  (rename News _ _ _ _ => N9)
  rw [hrp] at N9
  rw [show ((at_ : Int) + (ths.length : Int)) = ((at_ + ths.length : Nat) : Int) by omega] at F9
  exact ⟨rfl, _, _, _, _, _, _, _, _, _, _, _, rfl, F9, ⟨⟨_, rfl⟩, rfl, rfl, rfl, rfl, rfl, hwi, hwb, hwn, hatl⟩, news_sub N9 (by ((repeat refine sub_cons (by k_mem) ?_); (repeat first | exact sub_self | exact sub_nil | refine sub_up ?_)))⟩
end
end Mine
end
section
open PySem PySem.W PySem.Calls PyProof.Rows PySem.Spec
set_option maxRecDepth 100000
set_option maxHeartbeats 8000000
namespace Mine
theorem resetTurn {M : Model} {A : Around} {env : Env} {x : Str} {v : Value} {Q : Unit → Shared → Prop} {E : Value → Shared → Prop} {s : Shared} (h : wpAny M A (storeName env x v) Q E s) : wpAny M A (storeName env x v) Q E s := by
  w_top off
  k_with_none
  first
    | (walk1; fail)
    | exact h
local macro_rules | `(tactic| k_upd) => `(tactic| first | exact Pick.head | (refine' Pick.tail ?pp; (case pp => k_upd)))
local macro_rules | `(tactic| k_all) => `(tactic| assumption)
local macro_rules | `(tactic| k_room) => `(tactic| ktr_room)
local macro_rules | `(tactic| walk_at "call type:type") => `(tactic| refine call_type_of (PySem.W.typeIs_bytes _ _ _) (by decide +kernel) ?_)
local macro_rules | `(tactic| walk_at "call builtin:len") => `(tactic| (k_here; (with_reducible show wpAny _ _ (call (Value.builtin "len") [Value.ref _]) _ _ _); k_dflt (refine' len_baN ?N ?m ?z ?_; (case N => k_asm); (case m => k_mem); (case z => (first | assumption | exact Nat.le_trans (KBc.size_picked_le _ _ _) (by assumption))); k_whole); intro _ _))
local macro_rules | `(tactic| walk_at "call type:bytes") => `(tactic| (k_here; (with_reducible show wpAny _ _ (call (Value.type "bytes") [Value.ref _]) _ _ _); k_dflt (refine' bytes_baN ?N ?m ?z ?_; (case N => k_asm); (case m => k_mem); (case z => (first | assumption | exact Nat.le_trans (KBc.size_picked_le _ _ _) (by assumption))); k_whole); intro _ _))
local macro_rules | `(tactic| walk_at "subscriptTail") => `(tactic| (k_here; (with_reducible show wpAny _ _ (subscriptTail _ (Expr.Slice _ _ none _) (Value.ref _) (Value.ref _)) _ _ _); (with_reducible rename Fr _ _ _ _ => F'); (with_reducible rename News _ _ _ _ => N'); (refine cut_baN (s := ⟨_, _, _, _, _⟩) F' N' (by k_mem) (by constructor) (by constructor) (by (first | assumption | exact Nat.le_trans (KBc.size_picked_le _ _ _) (by assumption))) ?_); intro _ _ _ _ _))
local macro_rules | `(tactic| walk_at "call builtin:len") => `(tactic| (k_here; (with_reducible show wpAny _ _ (call (Value.builtin "len") [Value.bytes (rdB _ _ _) _]) _ _ _); refine len_bytes (Nat.le_trans rdB_le (by omega)) ?_))
local macro_rules | `(tactic| walk_at "call builtin:_struct.unpack") => `(tactic| (k_here; k_dflt (refine' unpackBN ?F ?N ?hb ?_; (case F => k_asm); (case N => k_asm); (case hb => assumption); k_whole); intro _ _ _ _ F' N' l1; (try k_lt l1)))
local macro_rules | `(tactic| walk_at "call type:enumerate") => `(tactic| (k_here; (with_reducible show wpAny _ _ (call (Value.type _) [Value.bytes _ _]) _ _ _); k_dflt (refine' call_enumB rfl ?hk ?F ?N ?_; (case hk => assumption); (case F => k_asm); (case N => k_asm); k_whole); intro _ _ F' N' S'))
local macro_rules | `(tactic| walk_at "pyReprObj bytes") => `(tactic| (k_here; (refine repr_bytes (by first | assumption | exact Nat.le_trans rdB_le (by omega)) (by first | assumption | exact literal_le (by first | omega | exact Nat.le_trans rdB_le (by omega))) ?_)))
theorem ens_parts (l : List Stmt) : l = l.take 3 ++ ((l.drop 3).take 2 ++ ((l.drop 5).take 1 ++ l.drop 6)) := by
  have e1 : (l.drop 5).take 1 ++ l.drop 6 = l.drop 5 := by
    have := List.take_append_drop 1 (l.drop 5)
    rwa [List.drop_drop] at this
  have e2 : (l.drop 3).take 2 ++ l.drop 5 = l.drop 3 := by
    have := List.take_append_drop 2 (l.drop 3)
    rwa [List.drop_drop] at this
  rw [e1, e2, List.take_append_drop]
section
variable {w : World} {p : Program} {loose : List Str} {mean : ExcName → Option Value} {mg mb : Str → Option Value} {dp un : Nat} {gd : Option (List Code)} {a : Addr} {ccd : Value} {A₀ : Around} {base h₀ : Heap} {L : Addr} {s : Shared} {Qf : Flow → Shared → Prop} {Ef : Value → Shared → Prop}
theorem mid_at {σ : Sd} {β : Bd} {y e d R sl : Addr} {te : Tok} {rs : List Int} {rvs : List Value} {rc : Nat} {own : List (Addr × Obj)} {h : Heap} {tk : Nat} {f : Flow} {s' : Shared}
    (H : Mid w h₀ L σ β y e d R sl te rs rvs rc own { s with heap := h, toks := tk } f s') : Mid w h₀ L σ β y e d R sl te rs rvs rc own s f s' := H
theorem ens_body {σ : Sd} {β : Bd} {y e d R wl sl : Addr} {u1 u2 t ta ti te tkk tx ty : Tok} {rs ws : List Int} {rvs wvs : List Value} {wc rc at_ : Nat} {own : List (Addr × Obj)} {mm : Str → Option Value} {iv X Y : Int}
    (hd : dp ≤ 310) (hu : un ≤ 100) (XB : (K w.params).In base) (TB : Top p loose mean mg mb base) (B : Below A₀ base [] h₀) (KX : (K w.params).In h₀) (T : Top p loose mean mg mb h₀)
    (F : Fr h₀ L s.heap (fun z => if z = Str.ofString "y" then some (.int Y ty) else if z = Str.ofString "x" then some (.int X tx) else if z = Str.ofString "kind" then some (.int 2 tkk) else if z = Str.ofString "i" then some (.int iv ti)
      else if z = Str.ofString "at" then some (.int (at_ : Int) ta) else if z = Str.ofString "waiting" then some (.ref wl) else if z = Str.ofString "row" then some (.ref R) else if z = Str.ofString "stream" then some (.ref y) else if z = Str.ofString "extent" then some (.int (rs.length : Nat) te)
      else if z = Str.ofString "script" then some (.ref sl) else mm z))
    (N : News h₀ L s.heap ((y, instObj 1075 e) :: (e, sdict w σ (ws.length : Nat) u1 (wo ws) u2) :: (σ.io, instObj 350 d) :: (d, bdict w β (at_ : Int) t) :: (β.ba, baObj (byteArr rs)) :: (R, PySem.W.listOf rvs.toArray rc) :: (wl, PySem.W.listOf wvs.toArray wc) :: own))
    (hown : ∀ p ∈ own, p.2.cls ≠ .type "dict") (ap : Ap y e σ.io d β.ba ((R, PySem.W.listOf rvs.toArray rc) :: (wl, PySem.W.listOf wvs.toArray wc) :: own))
    (hri : IntsAre rvs rs) (hrb : ∀ n ∈ rs, 0 ≤ n ∧ n < 256) (hrl : rs.length ≤ 14) (hrl2 : 2 ≤ rs.length) (hwi : IntsAre wvs ws) (hwb : ∀ n ∈ ws, 0 ≤ n ∧ n ≤ 1) (hwn : ws.length < 8) (hat : at_ ≤ rs.length + 1)
     :
    wpAny (model prog w) (ktrTop dp un gd lawRec.name lawRec.scope L a ccd [] []) (execs ensBody (envX lawRec.name lawRec.scope L a ccd [])) (Mid w h₀ L σ β y e d R sl te rs rvs rc own s) Ef s := by
  rw [ens_parts ensBody]
  refine wpAny_execs_app _ (ens_A hd hu XB TB B KX T F N hown ap hri hrb hrl hrl2 hwi hwb hwn hat ?_)
  intro h1 tk1 m1 wl1 wvs1 ms1 wc1 tm1 F1 H1 N1 I1 hb1 hl1 hl2 ha1
  rw [has_map H1] at F1
  simp only [List.foldr] at F1
  dsimp only
  have step2 : ∀ h2 tk2 m2 wl2 (wvs2 : List Value) ms2 wc2, Fr h₀ L h2 m2 → Has m2 [(Str.ofString "wanted", .ref wl2), (Str.ofString "at", .int (at_ : Int) ta), (Str.ofString "waiting", .ref wl), (Str.ofString "row", .ref R), (Str.ofString "stream", .ref y), (Str.ofString "extent", .int (rs.length : Nat) te), (Str.ofString "script", .ref sl)] → News h₀ L h2 ((wl2, PySem.W.listOf wvs2.toArray wc2) :: (y, instObj 1075 e) :: (e, sdict w σ (ws.length : Nat) u1 (wo ws) u2) :: (σ.io, instObj 350 d) :: (d, bdict w β (at_ : Int) t) :: (β.ba, baObj (byteArr rs)) :: (R, PySem.W.listOf rvs.toArray rc) :: (wl, PySem.W.listOf wvs.toArray wc) :: own) → IntsAre wvs2 ms2 → (∀ k ∈ ms2, 0 ≤ k ∧ k < 256) → 1 ≤ ms2.length → ms2.length ≤ 5 →
      wpAny (model prog w) (ktrTop dp un gd lawRec.name lawRec.scope L a ccd [] []) (execs ((ensBody.drop 5).take 1 ++ ensBody.drop 6) (envX lawRec.name lawRec.scope L a ccd [])) (Mid w h₀ L σ β y e d R sl te rs rvs rc own s) Ef { s with heap := h2, toks := tk2 } := by
    intro h2 tk2 m2 wl2 wvs2 ms2 wc2 F2 H2 N2 I2 hb2 hl1 hl2
    rw [has_map H2] at F2
    simp only [List.foldr] at F2
    refine wpAny_execs_app _ (ens_C (s := { s with heap := h2, toks := tk2 }) hd hu XB TB B KX T F2 N2 I2 hb2 hown ap hri hrb hrl hrl2 hwi hwb hwn hat hl1 hl2 ?_)
    intro h3 tk3 m3 th tvs F3 H3 N3 I3
    rw [has_map H3] at F3
    simp only [List.foldr] at F3
    dsimp only
    by_cases hq : (rs.drop at_).take ms2.length = ms2
    · exact ens_D1 (s := { s with heap := h3, toks := tk3 }) hd hu XB TB B KX T F3 N3 I3 I2 hb2 hown ap hri hrb hrl hrl2 hwi hwb hwn hat hl1 hl2 rfl hq
    · exact ens_D2 (s := { s with heap := h3, toks := tk3 }) hd hu XB TB B KX T F3 N3 I3 I2 hb2 hown ap hri hrb hrl hrl2 hwi hwb hwn hat hl1 hl2 rfl hq
  by_cases q1 : (X.fdiv 4).fmod 3 = 1
  · refine wpAny_execs_app _ (ens_B1 (s := { s with heap := h1, toks := tk1 }) hd hu XB TB B KX T F1 N1 I1 hb1 hown ap hri hrb hrl hrl2 hwi hwb hwn hat ha1 hl1 hl2 q1 ?_)
    intro h2 tk2 m2 wl2 wvs2 ms2 wc2 F2 H2 N2 I2 hb2 hl1 hl2
    dsimp only
    exact step2 h2 tk2 m2 wl2 wvs2 ms2 wc2 F2 H2 N2 I2 hb2 hl1 hl2
  by_cases q2 : (X.fdiv 4).fmod 3 = 2
  · refine wpAny_execs_app _ (ens_B2 (s := { s with heap := h1, toks := tk1 }) hd hu XB TB B KX T F1 N1 I1 hb1 hown ap hri hrb hrl hrl2 hwi hwb hwn hat hl1 hl2 q2 ?_)
    intro h2 tk2 m2 wl2 wvs2 ms2 wc2 F2 H2 N2 I2 hb2 hl1 hl2
    dsimp only
    exact step2 h2 tk2 m2 wl2 wvs2 ms2 wc2 F2 H2 N2 I2 hb2 hl1 hl2
  · refine wpAny_execs_app _ (ens_B3 (s := { s with heap := h1, toks := tk1 }) hd hu XB TB B KX T F1 N1 I1 hb1 hown ap hri hrb hrl hrl2 hwi hwb hwn hat hl1 hl2 q1 q2 ?_)
    intro h2 tk2 m2 wl2 wvs2 ms2 wc2 F2 H2 N2 I2 hb2 hl1 hl2
    dsimp only
    exact step2 h2 tk2 m2 wl2 wvs2 ms2 wc2 F2 H2 N2 I2 hb2 hl1 hl2
local macro_rules | `(tactic| walk_at "execs cons") => `(tactic| (k_here; (with_reducible show wpAny _ _ (execs (Stmt.Assign _ _ _ :: _) _) _ _ _); refine stop_here ?_))
theorem d_ens {σ : Sd} {β : Bd} {y e d R wl sl : Addr} {u1 u2 t ta ti te tkk tx ty : Tok} {rs ws : List Int} {rvs wvs : List Value} {wc rc at_ : Nat} {own : List (Addr × Obj)} {mm : Str → Option Value} {iv X Y : Int}
    (hd : dp ≤ 310) (hu : un ≤ 100) (XB : (K w.params).In base) (TB : Top p loose mean mg mb base) (B : Below A₀ base [] h₀) (KX : (K w.params).In h₀) (T : Top p loose mean mg mb h₀)
    (F : Fr h₀ L s.heap (fun z => if z = Str.ofString "y" then some (.int Y ty) else if z = Str.ofString "x" then some (.int X tx) else if z = Str.ofString "kind" then some (.int 2 tkk) else if z = Str.ofString "i" then some (.int iv ti)
      else if z = Str.ofString "at" then some (.int (at_ : Int) ta) else if z = Str.ofString "waiting" then some (.ref wl) else if z = Str.ofString "row" then some (.ref R) else if z = Str.ofString "stream" then some (.ref y) else if z = Str.ofString "extent" then some (.int (rs.length : Nat) te)
      else if z = Str.ofString "script" then some (.ref sl) else mm z))
    (N : News h₀ L s.heap ((y, instObj 1075 e) :: (e, sdict w σ (ws.length : Nat) u1 (wo ws) u2) :: (σ.io, instObj 350 d) :: (d, bdict w β (at_ : Int) t) :: (β.ba, baObj (byteArr rs)) :: (R, PySem.W.listOf rvs.toArray rc) :: (wl, PySem.W.listOf wvs.toArray wc) :: own))
    (hown : ∀ p ∈ own, p.2.cls ≠ .type "dict") (ap : Ap y e σ.io d β.ba ((R, PySem.W.listOf rvs.toArray rc) :: (wl, PySem.W.listOf wvs.toArray wc) :: own))
    (hri : IntsAre rvs rs) (hrb : ∀ n ∈ rs, 0 ≤ n ∧ n < 256) (hrl : rs.length ≤ 14) (hrl2 : 2 ≤ rs.length) (hwi : IntsAre wvs ws) (hwb : ∀ n ∈ ws, 0 ≤ n ∧ n ≤ 1) (hwn : ws.length < 8) (hat : at_ ≤ rs.length + 1)
     :
    wpAny (model prog w) (ktrTop dp un gd lawRec.name lawRec.scope L a ccd [] []) (exec kindIf (envX lawRec.name lawRec.scope L a ccd [])) (Mid w h₀ L σ β y e d R sl te rs rvs rc own s) Ef s := by
  unfold kindIf loopTail bodyOf
  show wpAny _ _ (exec (Stmt.If _ _ _ _) _) _ _ _
  k_steps
  refine Stop.mk ?_
  (rename Fr _ _ _ _ => F8)
  (rename News _ _ _ _ => N8)
  show wpAny _ _ (execs ensBody _) _ _ _
  · refine wpAny_mono (ens_body hd hu XB TB B KX T F8 N8 hown ap hri hrb hrl hrl2 hwi hwb hwn hat) (fun f s' H => ?_) fun _ _ h => h
    obtain ⟨rfl, H⟩ := H
    exact wpAny_execs_nil ⟨rfl, H⟩
  all_goals exact Value.none
end
end Mine
end
section
open PySem PySem.W PySem.Calls PyProof.Rows PySem.Spec
set_option maxRecDepth 100000
set_option maxHeartbeats 8000000
namespace Mine
theorem resetDeed {M : Model} {A : Around} {env : Env} {x : Str} {v : Value} {Q : Unit → Shared → Prop} {E : Value → Shared → Prop} {s : Shared} (h : wpAny M A (storeName env x v) Q E s) : wpAny M A (storeName env x v) Q E s := by
  w_top off
  k_with_none
  first
    | (walk1; fail)
    | exact h
local macro_rules | `(tactic| k_upd) => `(tactic| first | exact Pick.head | (refine' Pick.tail ?pp; (case pp => k_upd)))
local macro_rules | `(tactic| k_all) => `(tactic| assumption)
local macro_rules | `(tactic| k_room) => `(tactic| ktr_room)
local macro_rules | `(tactic| walk_at "call type:type") => `(tactic| refine call_type_of (PySem.W.typeIs_bytes _ _ _) (by decide +kernel) ?_)
local macro_rules | `(tactic| walk_at "call builtin:len") => `(tactic| (k_here; (with_reducible show wpAny _ _ (call (Value.builtin "len") [Value.ref _]) _ _ _); k_dflt (refine' len_baN ?N ?m ?z ?_; (case N => k_asm); (case m => k_mem); (case z => (first | assumption | exact Nat.le_trans (KBc.size_picked_le _ _ _) (by assumption))); k_whole); intro _ _))
local macro_rules | `(tactic| walk_at "call type:bytes") => `(tactic| (k_here; (with_reducible show wpAny _ _ (call (Value.type "bytes") [Value.ref _]) _ _ _); k_dflt (refine' bytes_baN ?N ?m ?z ?_; (case N => k_asm); (case m => k_mem); (case z => (first | assumption | exact Nat.le_trans (KBc.size_picked_le _ _ _) (by assumption))); k_whole); intro _ _))
local macro_rules | `(tactic| walk_at "subscriptTail") => `(tactic| (k_here; (with_reducible show wpAny _ _ (subscriptTail _ (Expr.Slice _ _ none _) (Value.ref _) (Value.ref _)) _ _ _); (with_reducible rename Fr _ _ _ _ => F'); (with_reducible rename News _ _ _ _ => N'); (refine cut_baN (s := ⟨_, _, _, _, _⟩) F' N' (by k_mem) (by constructor) (by constructor) (by (first | assumption | exact Nat.le_trans (KBc.size_picked_le _ _ _) (by assumption))) ?_); intro _ _ _ _ _))
local macro_rules | `(tactic| walk_at "call builtin:len") => `(tactic| (k_here; (with_reducible show wpAny _ _ (call (Value.builtin "len") [Value.bytes (rdB _ _ _) _]) _ _ _); refine len_bytes (Nat.le_trans rdB_le (by omega)) ?_))
local macro_rules | `(tactic| walk_at "call builtin:_struct.unpack") => `(tactic| (k_here; k_dflt (refine' unpackBN ?F ?N ?hb ?_; (case F => k_asm); (case N => k_asm); (case hb => assumption); k_whole); intro _ _ _ _ F' N' l1; (try k_lt l1)))
local macro_rules | `(tactic| walk_at "call type:enumerate") => `(tactic| (k_here; (with_reducible show wpAny _ _ (call (Value.type _) [Value.bytes _ _]) _ _ _); k_dflt (refine' call_enumB rfl ?hk ?F ?N ?_; (case hk => assumption); (case F => k_asm); (case N => k_asm); k_whole); intro _ _ F' N' S'))
local macro_rules | `(tactic| walk_at "pyReprObj bytes") => `(tactic| (k_here; (refine repr_bytes (by first | assumption | exact Nat.le_trans rdB_le (by omega)) (by first | assumption | exact literal_le (by first | omega | exact Nat.le_trans rdB_le (by omega))) ?_)))
section
variable {w : World} {p : Program} {loose : List Str} {mean : ExcName → Option Value} {mg mb : Str → Option Value} {dp un : Nat} {gd : Option (List Code)} {a : Addr} {ccd : Value} {A₀ : Around} {base h₀ : Heap} {L : Addr} {s : Shared} {Qf : Flow → Shared → Prop} {Ef : Value → Shared → Prop} {kd : Int}
theorem deed_any {σ : Sd} {β : Bd} {y e d R wl sl : Addr} {u1 u2 t ta ti te tkk tx ty : Tok} {rs ws : List Int} {rvs wvs : List Value} {wc rc at_ : Nat} {own : List (Addr × Obj)} {mm : Str → Option Value} {iv X Y : Int}
    (hd : dp ≤ 310) (hu : un ≤ 100) (XB : (K w.params).In base) (TB : Top p loose mean mg mb base) (B : Below A₀ base [] h₀) (KX : (K w.params).In h₀) (T : Top p loose mean mg mb h₀)
    (F : Fr h₀ L s.heap (fun z => if z = Str.ofString "y" then some (.int Y ty) else if z = Str.ofString "x" then some (.int X tx) else if z = Str.ofString "kind" then some (.int kd tkk) else if z = Str.ofString "i" then some (.int iv ti)
      else if z = Str.ofString "at" then some (.int (at_ : Int) ta) else if z = Str.ofString "waiting" then some (.ref wl) else if z = Str.ofString "row" then some (.ref R) else if z = Str.ofString "stream" then some (.ref y) else if z = Str.ofString "extent" then some (.int (rs.length : Nat) te)
      else if z = Str.ofString "script" then some (.ref sl) else mm z))
    (N : News h₀ L s.heap ((y, instObj 1075 e) :: (e, sdict w σ (ws.length : Nat) u1 (wo ws) u2) :: (σ.io, instObj 350 d) :: (d, bdict w β (at_ : Int) t) :: (β.ba, baObj (byteArr rs)) :: (R, PySem.W.listOf rvs.toArray rc) :: (wl, PySem.W.listOf wvs.toArray wc) :: own))
    (hown : ∀ p ∈ own, p.2.cls ≠ .type "dict") (ap : Ap y e σ.io d β.ba ((R, PySem.W.listOf rvs.toArray rc) :: (wl, PySem.W.listOf wvs.toArray wc) :: own))
    (hri : IntsAre rvs rs) (hrb : ∀ n ∈ rs, 0 ≤ n ∧ n < 256) (hrl : rs.length ≤ 14) (hrl2 : 2 ≤ rs.length) (hwi : IntsAre wvs ws) (hwb : ∀ n ∈ ws, 0 ≤ n ∧ n ≤ 1) (hwn : ws.length < 8) (hat : at_ ≤ rs.length + 1)
    (hk0 : 0 ≤ kd) (hk4 : kd ≤ 4) :
    wpAny (model prog w) (ktrTop dp un gd lawRec.name lawRec.scope L a ccd [] []) (exec kindIf (envX lawRec.name lawRec.scope L a ccd [])) (Mid w h₀ L σ β y e d R sl te rs rvs rc own s) Ef s := by
  have hW0 : 0 ≤ X.fmod 19 := fmod_lo X (by decide)
  have hk : kd = 0 ∨ kd = 1 ∨ kd = 2 ∨ kd = 3 ∨ kd = 4 := by omega
  have hmany : (ws.length : Int) < X.fmod 19 → ∃ many : Nat, (many : Int) = (X.fmod 19 - ws.length + 7).fdiv 8 := by
    intro h
    refine ⟨((X.fmod 19 - ws.length + 7).fdiv 8).toNat, ?_⟩
    rw [fdiv8]
    omega
  rcases hk with rfl | rfl | rfl | rfl | rfl
  · by_cases hl : X.fmod 19 ≤ (ws.length : Int)
    · exact d_hi0 hd hu XB TB B KX T F N hown ap hri hrb hrl hrl2 hwi hwb hwn hat hl
    · obtain ⟨many, hm⟩ := hmany (by omega)
      by_cases he : at_ + many ≤ rs.length
      · exact d_hi hd hu XB TB B KX T F N hown ap hri hrb hrl hrl2 hwi hwb hwn hat many (by omega) hm he
      · exact d_hiS hd hu XB TB B KX T F N hown ap hri hrb hrl hrl2 hwi hwb hwn hat many (by omega) hm (by omega)
  · by_cases hl : X.fmod 19 ≤ (ws.length : Int)
    · exact d_lo0 hd hu XB TB B KX T F N hown ap hri hrb hrl hrl2 hwi hwb hwn hat hl
    · obtain ⟨many, hm⟩ := hmany (by omega)
      by_cases he : at_ + many ≤ rs.length
      · exact d_lo hd hu XB TB B KX T F N hown ap hri hrb hrl hrl2 hwi hwb hwn hat many (by omega) hm he
      · exact d_loS hd hu XB TB B KX T F N hown ap hri hrb hrl hrl2 hwi hwb hwn hat many (by omega) hm (by omega)
  · exact d_ens hd hu XB TB B KX T F N hown ap hri hrb hrl hrl2 hwi hwb hwn hat
  · exact d_seek hd hu XB TB B KX T F N hown ap hri hrb hrl hrl2 hwi hwb hwn hat
  · by_cases he : at_ < rs.length
    · exact d_octet hd hu XB TB B KX T F N hown ap hri hrb hrl hrl2 hwi hwb hwn hat he
    · exact d_none hd hu XB TB B KX T F N hown ap hri hrb hrl hrl2 hwi hwb hwn hat (by omega)
theorem loopTail_eq : loopTail = [kindIf, chkIf] := rfl
theorem turn_any {σ : Sd} {β : Bd} {y e d R wl sl : Addr} {u1 u2 t ta ti te tkk tx ty : Tok} {rs ws : List Int} {rvs wvs : List Value} {wc rc at_ : Nat} {own : List (Addr × Obj)} {mm : Str → Option Value} {iv X Y : Int}
    (hd : dp ≤ 310) (hu : un ≤ 100) (XB : (K w.params).In base) (TB : Top p loose mean mg mb base) (B : Below A₀ base [] h₀) (KX : (K w.params).In h₀) (T : Top p loose mean mg mb h₀)
    (F : Fr h₀ L s.heap (fun z => if z = Str.ofString "y" then some (.int Y ty) else if z = Str.ofString "x" then some (.int X tx) else if z = Str.ofString "kind" then some (.int kd tkk) else if z = Str.ofString "i" then some (.int iv ti)
      else if z = Str.ofString "at" then some (.int (at_ : Int) ta) else if z = Str.ofString "waiting" then some (.ref wl) else if z = Str.ofString "row" then some (.ref R) else if z = Str.ofString "stream" then some (.ref y) else if z = Str.ofString "extent" then some (.int (rs.length : Nat) te)
      else if z = Str.ofString "script" then some (.ref sl) else mm z))
    (N : News h₀ L s.heap ((y, instObj 1075 e) :: (e, sdict w σ (ws.length : Nat) u1 (wo ws) u2) :: (σ.io, instObj 350 d) :: (d, bdict w β (at_ : Int) t) :: (β.ba, baObj (byteArr rs)) :: (R, PySem.W.listOf rvs.toArray rc) :: (wl, PySem.W.listOf wvs.toArray wc) :: own))
    (hown : ∀ p ∈ own, p.2.cls ≠ .type "dict") (ap : Ap y e σ.io d β.ba ((R, PySem.W.listOf rvs.toArray rc) :: (wl, PySem.W.listOf wvs.toArray wc) :: own))
    (hri : IntsAre rvs rs) (hrb : ∀ n ∈ rs, 0 ≤ n ∧ n < 256) (hrl : rs.length ≤ 14) (hrl2 : 2 ≤ rs.length) (hwi : IntsAre wvs ws) (hwb : ∀ n ∈ ws, 0 ≤ n ∧ n ≤ 1) (hwn : ws.length < 8) (hat : at_ ≤ rs.length + 1)
    (hk0 : 0 ≤ kd) (hk4 : kd ≤ 4) :
    wpAny (model prog w) (ktrTop dp un gd lawRec.name lawRec.scope L a ccd [] []) (execs loopTail (envX lawRec.name lawRec.scope L a ccd [])) (Mid w h₀ L σ β y e d R sl te rs rvs rc own s) Ef s := by
  rw [loopTail_eq]
  refine wpAny_execs_cons (wpAny_mono (deed_any hd hu XB TB B KX T F N hown ap hri hrb hrl hrl2 hwi hwb hwn hat hk0 hk4) (fun f s' H => ?_) fun _ _ h => h)
  obtain ⟨rfl, h1, tk1, m1, v1, v2, t2, ws1, wvs1, wc1, wl1, at1, rfl, F1, J1, N1⟩ := H
  dsimp only
  obtain ⟨ta1, hm⟩ := jf_map J1
  rw [hm] at F1
  refine wpAny_execs_cons (wpAny_mono (tail_ok (s := { s with heap := h1, toks := tk1 }) hd hu B KX T F1 (news_sub N1 (by ((repeat refine sub_cons (by k_mem) ?_); (repeat first | exact sub_self | exact sub_nil | refine sub_up ?_)))) hown hrl hrl2 J1.wi J1.wb J1.wn J1.at1) (fun f s' H => ?_) fun _ _ h => h)
  obtain ⟨rfl, H⟩ := H
  exact wpAny_execs_nil ⟨rfl, H⟩
end
end Mine
end
section
open PySem PySem.W PySem.Calls PyProof.Rows PySem.Spec
set_option maxRecDepth 100000
set_option maxHeartbeats 8000000
namespace Mine
theorem resetLoopL {M : Model} {A : Around} {env : Env} {x : Str} {v : Value} {Q : Unit → Shared → Prop} {E : Value → Shared → Prop} {s : Shared} (h : wpAny M A (storeName env x v) Q E s) : wpAny M A (storeName env x v) Q E s := by
  w_top off
  k_with_none
  first
    | (walk1; fail)
    | exact h
local macro_rules | `(tactic| k_upd) => `(tactic| first | exact Pick.head | (refine' Pick.tail ?pp; (case pp => k_upd)))
local macro_rules | `(tactic| k_all) => `(tactic| assumption)
local macro_rules | `(tactic| k_room) => `(tactic| ktr_room)
local macro_rules | `(tactic| walk_at "call type:type") => `(tactic| refine call_type_of (PySem.W.typeIs_bytes _ _ _) (by decide +kernel) ?_)
local macro_rules | `(tactic| walk_at "call builtin:len") => `(tactic| (k_here; (with_reducible show wpAny _ _ (call (Value.builtin "len") [Value.ref _]) _ _ _); k_dflt (refine' len_baN ?N ?m ?z ?_; (case N => k_asm); (case m => k_mem); (case z => (first | assumption | exact Nat.le_trans (KBc.size_picked_le _ _ _) (by assumption))); k_whole); intro _ _))
local macro_rules | `(tactic| walk_at "call type:bytes") => `(tactic| (k_here; (with_reducible show wpAny _ _ (call (Value.type "bytes") [Value.ref _]) _ _ _); k_dflt (refine' bytes_baN ?N ?m ?z ?_; (case N => k_asm); (case m => k_mem); (case z => (first | assumption | exact Nat.le_trans (KBc.size_picked_le _ _ _) (by assumption))); k_whole); intro _ _))
local macro_rules | `(tactic| walk_at "subscriptTail") => `(tactic| (k_here; (with_reducible show wpAny _ _ (subscriptTail _ (Expr.Slice _ _ none _) (Value.ref _) (Value.ref _)) _ _ _); (with_reducible rename Fr _ _ _ _ => F'); (with_reducible rename News _ _ _ _ => N'); (refine cut_baN (s := ⟨_, _, _, _, _⟩) F' N' (by k_mem) (by constructor) (by constructor) (by (first | assumption | exact Nat.le_trans (KBc.size_picked_le _ _ _) (by assumption))) ?_); intro _ _ _ _ _))
local macro_rules | `(tactic| walk_at "call builtin:len") => `(tactic| (k_here; (with_reducible show wpAny _ _ (call (Value.builtin "len") [Value.bytes (rdB _ _ _) _]) _ _ _); refine len_bytes (Nat.le_trans rdB_le (by omega)) ?_))
local macro_rules | `(tactic| walk_at "call builtin:_struct.unpack") => `(tactic| (k_here; k_dflt (refine' unpackBN ?F ?N ?hb ?_; (case F => k_asm); (case N => k_asm); (case hb => assumption); k_whole); intro _ _ _ _ F' N' l1; (try k_lt l1)))
local macro_rules | `(tactic| walk_at "call type:enumerate") => `(tactic| (k_here; (with_reducible show wpAny _ _ (call (Value.type _) [Value.bytes _ _]) _ _ _); k_dflt (refine' call_enumB rfl ?hk ?F ?N ?_; (case hk => assumption); (case F => k_asm); (case N => k_asm); k_whole); intro _ _ F' N' S'))
local macro_rules | `(tactic| walk_at "pyReprObj bytes") => `(tactic| (k_here; (refine repr_bytes (by first | assumption | exact Nat.le_trans rdB_le (by omega)) (by first | assumption | exact literal_le (by first | omega | exact Nat.le_trans rdB_le (by omega))) ?_)))
def forBody : List Stmt := bodyOf ((lawRec.body.drop 5).headD (.Pass default))
theorem forBody_eq : forBody = forBody.take 3 ++ loopTail := (List.take_append_drop 3 forBody).symm
section
variable {w : World} {p : Program} {loose : List Str} {mean : ExcName → Option Value} {mg mb : Str → Option Value} {dp un : Nat} {gd : Option (List Code)} {a : Addr} {ccd : Value} {A₀ : Around} {base h₀ : Heap} {L : Addr} {s : Shared} {Qf : Flow → Shared → Prop} {Ef : Value → Shared → Prop}
local macro_rules | `(tactic| walk_at "call ref") => `(tactic| (k_here; k_dflt (first
  | ((with_reducible show wpAny _ _ (call (Value.ref 1050) _) _ _ _); refine' tba_spec ?B ?F ?X ?T ?hk ?hd ?hu ?hp ?hz ?N0 ?P1 ?P2 ?P3 ?P4 ?P5 ?ap ?_; (case F => k_asm); (case X => k_asm); (case T => k_asm); (case B => k_asm); (case hk => (first | assumption | rfl)); (case N0 => k_asm); (case P1 => k_upd); (case P2 => k_upd); (case P3 => k_upd); (case P4 => k_upd); (case P5 => k_upd); (case ap => (exact Ap.mk (by (first | assumption | k_ne)) (by (first | assumption | k_ne)) (by (first | assumption | k_ne)) (by (first | assumption | k_ne)) (by (first | assumption | k_ne)) (by (first | assumption | k_ne)) (by (first | assumption | k_ne)) (by k_all) (by k_all))); (case hd => (first | omega | ((try simp only [depth_deeper, units_deeper, depth_in1, units_in1]); (try dsimp only [ktrTop]); omega))); (case hu => (first | omega | ((try simp only [depth_deeper, units_deeper, depth_in1, units_in1]); (try dsimp only [ktrTop]); omega))); (case hp => (first | omega | ((try simp only [depth_deeper, units_deeper, depth_in1, units_in1]); (try dsimp only [ktrTop]); omega))); (case hz => assumption); k_whole; intro _ _ _ _ _ _ F' N'))))
theorem turn_head {y R wl sl : Addr} {te ta ti : Tok} {rs : List Int} {at_ : Nat} {l : List (Addr × Obj)} {mm : Str → Option Value} {iv : Int} {vs : List Value} {ns : List Int}
    (hd : dp ≤ 310) (hu : un ≤ 100) (B : Below A₀ base [] h₀) (KX : (K w.params).In h₀) (T : Top p loose mean mg mb h₀)
    (F : Fr h₀ L s.heap (fun z => if z = Str.ofString "i" then some (.int iv ti)
      else if z = Str.ofString "at" then some (.int (at_ : Int) ta) else if z = Str.ofString "waiting" then some (.ref wl) else if z = Str.ofString "row" then some (.ref R) else if z = Str.ofString "stream" then some (.ref y) else if z = Str.ofString "extent" then some (.int (rs.length : Nat) te)
      else if z = Str.ofString "script" then some (.ref sl) else mm z))
    (N : News h₀ L s.heap l) (hl : h₀.IsList sl vs.toArray) (hi : IntsAre vs ns) (h0 : 0 ≤ iv) (h1 : iv + 1 < ns.length) (hn : ns.length ≤ 63)
    (ret : ∀ h' tk X Y kd tx ty tkk, 0 ≤ kd → kd ≤ 4 → Fr h₀ L h' (fun z => if z = Str.ofString "y" then some (.int Y ty) else if z = Str.ofString "x" then some (.int X tx) else if z = Str.ofString "kind" then some (.int kd tkk) else if z = Str.ofString "i" then some (.int iv ti)
      else if z = Str.ofString "at" then some (.int (at_ : Int) ta) else if z = Str.ofString "waiting" then some (.ref wl) else if z = Str.ofString "row" then some (.ref R) else if z = Str.ofString "stream" then some (.ref y) else if z = Str.ofString "extent" then some (.int (rs.length : Nat) te)
      else if z = Str.ofString "script" then some (.ref sl) else mm z) → News h₀ L h' l → Qf .next { s with heap := h', toks := tk }) :
    wpAny (model prog w) (ktrTop dp un gd lawRec.name lawRec.scope L a ccd [] []) (execs (forBody.take 3) (envX lawRec.name lawRec.scope L a ccd [])) Qf Ef s := by
  k_steps
  dsimp only [List.take]
  refine wpAny_execs_nil ?_
  (rename Fr _ _ _ _ => FX)
  (rename News _ _ _ _ => NX)
  refine ret _ _ _ _ _ _ _ _ ?_ ?_ FX NX
  · exact fmod_lo _ (by decide)
  · exact Int.le_of_lt_add_one (fmod_hi _ (by decide))
theorem dict_not_iter {n : Nat} {es : List DictEntry} : ¬ IterCls (dictOf es n) := by
  rintro (h | h) <;> exact absurd (Value.type.inj h) (by decide)
theorem inst_not_iter {c d : Addr} : ¬ IterCls (instObj c d) := by
  rintro (h | h) <;> cases h
theorem ba_not_iter {b : Array UInt8} : ¬ IterCls (baObj b) := by
  rintro (h | h) <;> exact absurd (Value.type.inj h) (by decide)
def LJ (w : World) (σ : Sd) (β : Bd) (y e d R sl : Addr) (te : Tok) (rs : List Int) (rvs : List Value) (rc : Nat) (m : Str → Option Value) (nx : List (Addr × Obj)) : Prop :=
  ∃ ws wvs wc wl at_ v1 v2 t2, JF m sl R y wl te rs ws wvs at_ ∧ nx = (wl, PySem.W.listOf (List.toArray wvs) wc) :: (y, instObj 1075 e) :: (e, sdict w σ (ws.length : Nat) v1 (wo ws) v2) :: (σ.io, instObj 350 d) :: (d, bdict w β (at_ : Int) t2) :: (β.ba, baObj (byteArr rs)) :: (R, PySem.W.listOf rvs.toArray rc) :: []
theorem loop_law {σ : Sd} {β : Bd} {y e d R sl r : Addr} {te t u v : Tok} {rs : List Int} {rvs : List Value} {rc : Nat} {m₀ : Str → Option Value} {news : List (Addr × Obj)} {vs : List Value} {ns : List Int} {b : Int}
    (hd : dp ≤ 310) (hu : un ≤ 100) (XB : (K w.params).In base) (TB : Top p loose mean mg mb base) (B : Below A₀ base [] h₀) (KX : (K w.params).In h₀) (T : Top p loose mean mg mb h₀)
    (hr : IsRange s.heap r 0 b 2 t u v) (hb : b ≤ ns.length - 1) (F : Fr h₀ L s.heap m₀) (N : News h₀ L s.heap news) (hj : LJ w σ β y e d R sl te rs rvs rc m₀ news)
    (hri : IntsAre rvs rs) (hrb : ∀ n ∈ rs, 0 ≤ n ∧ n < 256) (hrl : rs.length ≤ 14) (hrl2 : 2 ≤ rs.length) (hb0 : -1 ≤ b) (hb1 : b ≤ 36)
    (hl : h₀.IsList sl vs.toArray) (hi : IntsAre vs ns) (hn : ns.length ≤ 63)
    (done : ∀ m₁ news₁ h tk, LJ w σ β y e d R sl te rs rvs rc m₁ news₁ → Fr h₀ L h m₁ → News h₀ L h news₁ → Qf .next { s with heap := h, toks := tk }) :
    wpAny (model prog w) (ktrTop dp un gd lawRec.name lawRec.scope L a ccd [] []) (pyIter (.ref r)) (fun it s₂ => LoopAtV prog w (ktrTop dp un gd lawRec.name lawRec.scope L a ccd [] []) h₀ (envX lawRec.name lawRec.scope L a ccd []) (Str.ofString "i") forBody Qf Ef it s₂) Ef s := by
  refine loop_range (fun _ m nx => LJ w σ β y e d R sl te rs rvs rc m nx) rfl hr ?_ (rangeSize_toNat 0 b 2) F N hj ?_ done
  · have h9 := rangeSize_toNat 0 b 2
    have h8 := rangeSize_toNat_le 0 b 2
    unfold Builtin.Range.small Builtin.Range.rangeFitsLong
    generalize Builtin.Range.rangeSize 0 b 2 = q at h9 h8 ⊢
    simp
    omega
  · rintro i ti m₁ news₁ h tk own I hin hown ⟨oI, hoI, hic⟩ hnI ⟨ws, wvs, wc, wl, at_, v1, v2, t2, J, rfl⟩ F₁ N₁
    have hi2 : 0 + (i : Int) * 2 + 1 < ns.length := by
      unfold Builtin.Range.rangeSize at hin
      rw [if_pos (by decide)] at hin
      split at hin <;> omega
    have hown2 : ∀ p ∈ own, p.2.cls ≠ .type "dict" := by
      intro p hp hq
      have e1 := (N₁ _ (List.mem_append_right _ hp)).1
      have e2 := (N₁ _ (List.mem_append_right _ hoI)).1
      rw [hown p hp] at e1
      have e3 : p.2 = oI := Option.some.inj (e1.symm.trans e2)
      rw [e3] at hq
      rcases hic with h | h <;> (rw [h] at hq; exact absurd (Value.type.inj hq) (by decide))
    obtain ⟨ta, hm⟩ := jf_map J
    rw [hm] at F₁
    rw [forBody_eq]
    refine wpAny_execs_app _ (turn_head (s := { s with heap := h, toks := tk }) hd hu B KX T F₁ N₁ hl hi (by omega) hi2 hn ?_)
    intro h2 tk2 X Y kd tx ty tkk hk0 hk4 F2 N2
    dsimp only
    have ap : Ap y e σ.io d β.ba ((R, PySem.W.listOf rvs.toArray rc) :: (wl, PySem.W.listOf wvs.toArray wc) :: own) := by
      refine apOf N2 (by k_mem) (by k_mem) (by k_mem) (by k_mem) (by k_mem) ?_
      refine List.forall_mem_cons.mpr ⟨⟨by k_mem, list_nd⟩, ?_⟩
      refine List.forall_mem_cons.mpr ⟨⟨by k_mem, list_nd⟩, ?_⟩
      exact fun p hp => ⟨List.mem_append_right _ hp, hown2 p hp⟩
    refine wpAny_mono (turn_any (s := { s with heap := h2, toks := tk2 }) hd hu XB TB B KX T F2 (news_sub (r := (y, instObj 1075 e) :: (e, sdict w σ (ws.length : Nat) v1 (wo ws) v2) :: (σ.io, instObj 350 d) :: (d, bdict w β (at_ : Int) t2) :: (β.ba, baObj (byteArr rs)) :: (R, PySem.W.listOf rvs.toArray rc) :: (wl, PySem.W.listOf wvs.toArray wc) :: own) N2 (by (repeat refine sub_cons (by k_mem) ?_); exact fun p hp => List.mem_append_right _ hp)) hown2 ap hri hrb hrl hrl2 J.wi J.wb J.wn J.at1 hk0 hk4) (fun f s' H => ?_) fun _ _ h => h
    obtain ⟨rfl, h3, tk3, m3, v3, v4, t5, ws3, wvs3, wc3, wl3, at3, rfl, F3, J3, N3⟩ := H
    refine ⟨h3, tk3, m3, _ :: _ :: _ :: _ :: _ :: _ :: _ :: [], rfl, F3, N3, ?_, ws3, wvs3, wc3, wl3, at3, v3, v4, t5, J3, rfl⟩
    have hmI : (I, oI) ∈ (wl3, PySem.W.listOf wvs3.toArray wc3) :: (y, instObj 1075 e) :: (e, sdict w σ (ws3.length : Nat) v3 (wo ws3) v4) :: (σ.io, instObj 350 d) :: (d, bdict w β (at3 : Int) t5) :: (β.ba, baObj (byteArr rs)) :: (R, PySem.W.listOf rvs.toArray rc) :: own := .tail _ (.tail _ (.tail _ (.tail _ (.tail _ (.tail _ (.tail _ hoI))))))
    intro p hp
    simp only [List.mem_cons, List.not_mem_nil, or_false] at hp
    rcases hp with rfl | rfl | rfl | rfl | rfl | rfl | rfl
    · exact ne_iter N3 (by k_mem) hmI list_not_iter hic
    · exact ne_iter N3 (by k_mem) hmI inst_not_iter hic
    · exact ne_iter N3 (by k_mem) hmI dict_not_iter hic
    · exact ne_iter N3 (by k_mem) hmI inst_not_iter hic
    · exact ne_iter N3 (by k_mem) hmI dict_not_iter hic
    · exact ne_iter N3 (by k_mem) hmI ba_not_iter hic
    · exact ne_iter N3 (by k_mem) hmI list_not_iter hic
theorem law_end {σ : Sd} {β : Bd} {y e d R sl wl : Addr} {te ta u1 u2 t : Tok} {rs ws : List Int} {rvs wvs : List Value} {rc wc at_ : Nat} {mm : Str → Option Value}
    (hd : dp ≤ 310) (hu : un ≤ 100) (B : Below A₀ base [] h₀) (KX : (K w.params).In h₀) (T : Top p loose mean mg mb h₀)
    (F : Fr h₀ L s.heap (fun z => if z = Str.ofString "at" then some (.int (at_ : Int) ta) else if z = Str.ofString "waiting" then some (.ref wl) else if z = Str.ofString "row" then some (.ref R) else if z = Str.ofString "stream" then some (.ref y) else if z = Str.ofString "extent" then some (.int (rs.length : Nat) te)
      else if z = Str.ofString "script" then some (.ref sl) else mm z))
    (N : News h₀ L s.heap ((wl, PySem.W.listOf wvs.toArray wc) :: (y, instObj 1075 e) :: (e, sdict w σ (ws.length : Nat) u1 (wo ws) u2) :: (σ.io, instObj 350 d) :: (d, bdict w β (at_ : Int) t) :: (β.ba, baObj (byteArr rs)) :: (R, PySem.W.listOf rvs.toArray rc) :: []))
    (hri : IntsAre rvs rs) (hrb : ∀ n ∈ rs, 0 ≤ n ∧ n < 256) (hrl : rs.length ≤ 14) (hat : at_ ≤ rs.length + 1)
    (ret : ∀ h' tk m', Fr h₀ L h' m' → Qf (.ret (.bool true)) { s with heap := h', toks := tk }) :
    wpAny (model prog w) (ktrTop dp un gd lawRec.name lawRec.scope L a ccd [] []) (execs (lawRec.body.drop 6) (envX lawRec.name lawRec.scope L a ccd [])) Qf Ef s := by
  have ap : Ap y e σ.io d β.ba ((R, PySem.W.listOf rvs.toArray rc) :: (wl, PySem.W.listOf wvs.toArray wc) :: []) := by
    refine apOf N (by k_mem) (by k_mem) (by k_mem) (by k_mem) (by k_mem) ?_
    refine List.forall_mem_cons.mpr ⟨⟨by k_mem, list_nd⟩, ?_⟩
    refine List.forall_mem_cons.mpr ⟨⟨by k_mem, list_nd⟩, ?_⟩
    exact fun p hp => nomatch hp
  obtain ⟨ap1, ap2, ap3, ap4, ap5, ap6, ap7, ap8, ap9⟩ := ap
  have ar8 := ap8 _ (.head _)
  have ar9 := ap9 _ (.head _)
  have aw8 := ap8 _ (.tail _ (.head _))
  have aw9 := ap9 _ (.tail _ (.head _))
  clear ap8 ap9
  dsimp only at ar8 ar9 aw8 aw9
  replace ap1 := neN ap1
  replace ap2 := neN ap2
  replace ap3 := neN ap3
  replace ap4 := neN ap4
  replace ap5 := neN ap5
  replace ap6 := neN ap6
  replace ap7 := neN ap7
  replace ar8 := neN ar8
  replace ar9 := neN ar9
  replace aw8 := neN aw8
  replace aw9 := neN aw9
  have hdr : dp + 400 < recursionLimit := Nat.lt_of_le_of_lt (Nat.add_le_add_right hd 400) (by decide)
  have hur : un + 4000 < cLine := Nat.lt_of_le_of_lt (Nat.add_le_add_right hu 4000) (by decide)
  have hbs : (byteArr rs).size = rs.length := by simp [byteArr]
  have hbz : (byteArr rs).size ≤ 16777216 := by omega
  k_steps
  rw [beq_self_eq_true]
  exact ret _ _ _ (by k_asm)
end
end Mine
end
section
open PySem PySem.W PySem.Calls PyProof.Rows PySem.Spec
set_option maxRecDepth 100000
set_option maxHeartbeats 8000000
namespace Mine
theorem resetLawA {M : Model} {A : Around} {env : Env} {x : Str} {v : Value} {Q : Unit → Shared → Prop} {E : Value → Shared → Prop} {s : Shared} (h : wpAny M A (storeName env x v) Q E s) : wpAny M A (storeName env x v) Q E s := by
  w_top off
  k_with_none
  first
    | (walk1; fail)
    | exact h
local macro_rules | `(tactic| k_upd) => `(tactic| first | exact Pick.head | (refine' Pick.tail ?pp; (case pp => k_upd)))
local macro_rules | `(tactic| k_all) => `(tactic| assumption)
local macro_rules | `(tactic| k_room) => `(tactic| ktr_room)
local macro_rules | `(tactic| walk_at "call type:type") => `(tactic| refine call_type_of (PySem.W.typeIs_bytes _ _ _) (by decide +kernel) ?_)
local macro_rules | `(tactic| walk_at "call builtin:len") => `(tactic| (k_here; (with_reducible show wpAny _ _ (call (Value.builtin "len") [Value.ref _]) _ _ _); k_dflt (refine' len_baN ?N ?m ?z ?_; (case N => k_asm); (case m => k_mem); (case z => (first | assumption | exact Nat.le_trans (KBc.size_picked_le _ _ _) (by assumption))); k_whole); intro _ _))
local macro_rules | `(tactic| walk_at "call type:bytes") => `(tactic| (k_here; (with_reducible show wpAny _ _ (call (Value.type "bytes") [Value.ref _]) _ _ _); k_dflt (refine' bytes_baN ?N ?m ?z ?_; (case N => k_asm); (case m => k_mem); (case z => (first | assumption | exact Nat.le_trans (KBc.size_picked_le _ _ _) (by assumption))); k_whole); intro _ _))
local macro_rules | `(tactic| walk_at "subscriptTail") => `(tactic| (k_here; (with_reducible show wpAny _ _ (subscriptTail _ (Expr.Slice _ _ none _) (Value.ref _) (Value.ref _)) _ _ _); (with_reducible rename Fr _ _ _ _ => F'); (with_reducible rename News _ _ _ _ => N'); (refine cut_baN (s := ⟨_, _, _, _, _⟩) F' N' (by k_mem) (by constructor) (by constructor) (by (first | assumption | exact Nat.le_trans (KBc.size_picked_le _ _ _) (by assumption))) ?_); intro _ _ _ _ _))
local macro_rules | `(tactic| walk_at "call builtin:len") => `(tactic| (k_here; (with_reducible show wpAny _ _ (call (Value.builtin "len") [Value.bytes (rdB _ _ _) _]) _ _ _); refine len_bytes (Nat.le_trans rdB_le (by omega)) ?_))
local macro_rules | `(tactic| walk_at "call builtin:_struct.unpack") => `(tactic| (k_here; k_dflt (refine' unpackBN ?F ?N ?hb ?_; (case F => k_asm); (case N => k_asm); (case hb => assumption); k_whole); intro _ _ _ _ F' N' l1; (try k_lt l1)))
local macro_rules | `(tactic| walk_at "call type:enumerate") => `(tactic| (k_here; (with_reducible show wpAny _ _ (call (Value.type _) [Value.bytes _ _]) _ _ _); k_dflt (refine' call_enumB rfl ?hk ?F ?N ?_; (case hk => assumption); (case F => k_asm); (case N => k_asm); k_whole); intro _ _ F' N' S'))
local macro_rules | `(tactic| walk_at "pyReprObj bytes") => `(tactic| (k_here; (refine repr_bytes (by first | assumption | exact Nat.le_trans rdB_le (by omega)) (by first | assumption | exact literal_le (by first | omega | exact Nat.le_trans rdB_le (by omega))) ?_)))
local macro_rules | `(tactic| walk_at "pyIter ref") => `(tactic| (k_here; refine stop_here ?_))
local macro_rules | `(tactic| walk_at "exec For Name Call cons nil") => `(tactic| refine stop_here ?_)
local macro_rules | `(tactic| walk_at "exec For") => `(tactic| refine stop_here ?_)
section
variable {w : World} {p : Program} {loose : List Str} {mean : ExcName → Option Value} {mg mb : Str → Option Value} {dp un : Nat} {gd : Option (List Code)} {a : Addr} {ccd : Value} {A₀ : Around} {base h₀ : Heap} {L : Addr} {s : Shared} {Qf : Flow → Shared → Prop} {Ef : Value → Shared → Prop}
theorem law_all {sl : Addr} {vs : List Value} {ns : List Int} (hd : dp ≤ 310) (hu : un ≤ 100) (XB : (K w.params).In base) (TB : Top p loose mean mg mb base) (B : Below A₀ base [] h₀) (F : Fr h₀ L s.heap (fun x => List.lookup x [(Str.ofString "script", Value.ref sl)].reverse)) (X : (K w.params).In h₀) (T : Top p loose mean mg mb h₀)
    (hl : h₀.IsList sl vs.toArray) (hi : IntsAre vs ns) (hn : ns.length ≤ 63)
    (hE : PassesOwn (model prog w) (ktrTop dp un gd lawRec.name lawRec.scope L a ccd [] []) (envX lawRec.name lawRec.scope L a ccd []) Ef)
    (ret : ∀ h' tk m', Fr h₀ L h' m' → Qf (.ret (.bool true)) { s with heap := h', toks := tk }) :
    wpC (model prog w) (ktrTop dp un gd lawRec.name lawRec.scope L a ccd [] []) (execs lawRec.body (envX lawRec.name lawRec.scope L a ccd [])) Qf Ef s := by
  have N0 : News h₀ L s.heap [] := fun _ h => nomatch h
  refine wpC_execs_consA ?_
  k_steps
  rename IntsAre _ (List.map _ _ ++ [90, 39]) => hri
  rename Fr _ _ _ _ => F1
  rename News _ _ _ _ => N1
  have hrb : ∀ n ∈ (List.map (fun k' : Int => k'.fmod 256) (List.take 12 ns) ++ [90, 39]), 0 ≤ n ∧ n < 256 := by
    intro n hn
    rcases List.mem_append.mp hn with h | h
    · obtain ⟨k, _, rfl⟩ := List.mem_map.mp h
      exact ⟨fmod_lo _ (by decide), fmod_hi _ (by decide)⟩
    · rcases List.mem_cons.mp h with rfl | h
      · decide
      · rw [List.mem_singleton.mp h]; decide
  have hrl : (List.map (fun k' : Int => k'.fmod 256) (List.take 12 ns) ++ [90, 39]).length ≤ 14 := by
    rw [List.length_append, List.length_map, List.length_take]; simp only [List.length_cons, List.length_nil]; omega
  have hrl2 : 2 ≤ (List.map (fun k' : Int => k'.fmod 256) (List.take 12 ns) ++ [90, 39]).length := by
    rw [List.length_append]; simp only [List.length_cons, List.length_nil]; omega
  generalize List.map (fun k' : Int => k'.fmod 256) (List.take 12 ns) ++ [90, 39] = rs at hri hrb hrl hrl2
  replace N1 := news_sub (r := [(_, PySem.W.listOf _ 0)]) N1 (sub_cons (.head _) sub_nil)
  refine wpC_execs_consA ?_
  k_steps
  refine wpC_execs_cons (wpC_Assign_Name (wpC_Attribute (wpC_Call_Attribute ?_)))
  k_steps
  dsimp only
  refine wpC_callWith1 (wpC_of_any ?_)
  k_steps
  (rename Fr _ _ _ _ => F2)
  (rename News _ _ _ _ => N2)
  have hbs : (byteArr rs).size = rs.length := by simp [byteArr]
  refine keeper_meth (N2 _ (.head _)).1 ((X.keeps F2.keep) _ _ (by k_dflt k_is)) rfl ?_
  dsimp only [List.nil_append]
  refine wpC_call (codeC_meth (N2 _ (.head _)).1 ?_)
  k_dflt refine' from_bytes (cs := lawRec.scope) B F2 X T rfl ?hd ?hu ?hz N2 ?_
  case hd => show _ + 58 < _; exact Nat.lt_of_le_of_lt (Nat.add_le_add_right hd 58) (by decide)
  case hu => show _ + 580 < _; exact Nat.lt_of_le_of_lt (Nat.add_le_add_right hu 580) (by decide)
  case hz => rw [hbs]; omega
  intro k dk y e d σ β h3 tk3 t1 t2 t3 t4 F3 N3
  dsimp only
  k_steps
  refine wpAny_letTemporaryGo ?_
  (rename Fr _ _ _ _ => F4)
  (rename News _ _ _ _ => N4)
  replace N4 := news_sub (r := (y, instObj 1075 e) :: (e, sdict w σ 0 t1 0 t2) :: (σ.io, instObj 350 d) :: (d, bdict w β 0 t3) :: (β.ba, baObj (byteArr rs)) :: [(_, PySem.W.listOf _ 0)]) N4 (by ((repeat refine sub_cons (by k_mem) ?_); (repeat first | exact sub_self | exact sub_nil | refine sub_up ?_)))
  k_steps
  refine wpC_of_any ?_
  k_steps
  refine wpC_of_any ?_
  k_steps
  refine Stop.mk ?_
  (rename Fr _ _ _ _ => F5)
  refine For_invVF F5 ?k1 ?k2 ?_ (hE := hE)
  case k1 => exact rfl
  case k2 => exact rfl
  k_steps
  refine Stop.mk ?_
  (rename Fr _ _ _ _ => F6)
  (rename News _ _ _ _ => N6)
  refine' loop_law hd hu XB TB B X T ?hr ?hb F6 N6 ⟨[], [], 0, _, 0, _, _, _, ⟨⟨_, rfl⟩, rfl, rfl, rfl, rfl, rfl, .nil, (fun _ h => nomatch h), (by decide), (by omega)⟩, rfl⟩ hri hrb hrl hrl2 ?hb0 ?hb1 hl hi hn ?_
  case hr => assumption
  case hb => split <;> omega
  case hb0 => split <;> omega
  case hb1 => split <;> omega
  k_whole
  rintro m9 n9 h9 tk9 ⟨ws9, wvs9, wc9, wl9, at9, v9, v8, t9, J9, rfl⟩ F9 N9
  obtain ⟨ta9, hm9⟩ := jf_map J9
  rw [hm9] at F9
  dsimp only
  exact law_end hd hu B X T F9 N9 hri hrb hrl J9.at1 fun h' tk m' F' => ret h' tk m' F'
end
end Mine
end
section
open PySem PySem.W PySem.Calls PyProof.Rows PySem.Spec
set_option maxRecDepth 100000
set_option maxHeartbeats 8000000
namespace Mine
theorem resetEnt {M : Model} {A : Around} {env : Env} {x : Str} {v : Value} {Q : Unit → Shared → Prop} {E : Value → Shared → Prop} {s : Shared} (h : wpAny M A (storeName env x v) Q E s) : wpAny M A (storeName env x v) Q E s := by
  w_top off
  k_with_none
  first
    | (walk1; fail)
    | exact h
local macro_rules | `(tactic| k_upd) => `(tactic| first | exact Pick.head | (refine' Pick.tail ?pp; (case pp => k_upd)))
local macro_rules | `(tactic| k_all) => `(tactic| assumption)
local macro_rules | `(tactic| k_room) => `(tactic| ktr_room)
local macro_rules | `(tactic| walk_at "call type:type") => `(tactic| refine call_type_of (PySem.W.typeIs_bytes _ _ _) (by decide +kernel) ?_)
local macro_rules | `(tactic| walk_at "call builtin:len") => `(tactic| (k_here; (with_reducible show wpAny _ _ (call (Value.builtin "len") [Value.ref _]) _ _ _); k_dflt (refine' len_baN ?N ?m ?z ?_; (case N => k_asm); (case m => k_mem); (case z => (first | assumption | exact Nat.le_trans (KBc.size_picked_le _ _ _) (by assumption))); k_whole); intro _ _))
local macro_rules | `(tactic| walk_at "call type:bytes") => `(tactic| (k_here; (with_reducible show wpAny _ _ (call (Value.type "bytes") [Value.ref _]) _ _ _); k_dflt (refine' bytes_baN ?N ?m ?z ?_; (case N => k_asm); (case m => k_mem); (case z => (first | assumption | exact Nat.le_trans (KBc.size_picked_le _ _ _) (by assumption))); k_whole); intro _ _))
local macro_rules | `(tactic| walk_at "subscriptTail") => `(tactic| (k_here; (with_reducible show wpAny _ _ (subscriptTail _ (Expr.Slice _ _ none _) (Value.ref _) (Value.ref _)) _ _ _); (with_reducible rename Fr _ _ _ _ => F'); (with_reducible rename News _ _ _ _ => N'); (refine cut_baN (s := ⟨_, _, _, _, _⟩) F' N' (by k_mem) (by constructor) (by constructor) (by (first | assumption | exact Nat.le_trans (KBc.size_picked_le _ _ _) (by assumption))) ?_); intro _ _ _ _ _))
local macro_rules | `(tactic| walk_at "call builtin:len") => `(tactic| (k_here; (with_reducible show wpAny _ _ (call (Value.builtin "len") [Value.bytes (rdB _ _ _) _]) _ _ _); refine len_bytes (Nat.le_trans rdB_le (by omega)) ?_))
local macro_rules | `(tactic| walk_at "call builtin:_struct.unpack") => `(tactic| (k_here; k_dflt (refine' unpackBN ?F ?N ?hb ?_; (case F => k_asm); (case N => k_asm); (case hb => assumption); k_whole); intro _ _ _ _ F' N' l1; (try k_lt l1)))
local macro_rules | `(tactic| walk_at "call type:enumerate") => `(tactic| (k_here; (with_reducible show wpAny _ _ (call (Value.type _) [Value.bytes _ _]) _ _ _); k_dflt (refine' call_enumB rfl ?hk ?F ?N ?_; (case hk => assumption); (case F => k_asm); (case N => k_asm); k_whole); intro _ _ F' N' S'))
local macro_rules | `(tactic| walk_at "pyReprObj bytes") => `(tactic| (k_here; (refine repr_bytes (by first | assumption | exact Nat.le_trans rdB_le (by omega)) (by first | assumption | exact literal_le (by first | omega | exact Nat.le_trans rdB_le (by omega))) ?_)))
local macro_rules | `(tactic| walk_at "call ref") => `(tactic| (k_here; k_dflt (first
  | ((with_reducible show wpAny _ _ (call (Value.ref 250) _) _ _ _); refine' tell_pk ?B ?F ?X ?T ?hk ?hd ?hu ?N ?P1 ?P2 ?_; (case F => k_asm); (case X => k_asm); (case T => k_asm); (case B => k_asm); (case hk => (first | assumption | rfl)); (case N => k_asm); (case hd => (first | omega | ((try simp only [depth_deeper, units_deeper, depth_in1, units_in1]); (try dsimp only [ktrTop]); omega))); (case hu => (first | omega | ((try simp only [depth_deeper, units_deeper, depth_in1, units_in1]); (try dsimp only [ktrTop]); omega))); (case P1 => k_upd); (case P2 => k_upd); k_whole; intro _ _ _ F' N')
  | ((with_reducible show wpAny _ _ (call (Value.ref 258) _) _ _ _); refine' end_pk ?B ?F ?X ?T ?hk ?hd ?hu ?hz ?N ?P1 ?P2 ?P3 ?n1 ?n2 ?n3 ?_; (case F => k_asm); (case X => k_asm); (case T => k_asm); (case B => k_asm); (case hk => (first | assumption | rfl)); (case N => k_asm); (case hd => (first | omega | ((try simp only [depth_deeper, units_deeper, depth_in1, units_in1]); (try dsimp only [ktrTop]); omega))); (case hu => (first | omega | ((try simp only [depth_deeper, units_deeper, depth_in1, units_in1]); (try dsimp only [ktrTop]); omega))); (case hz => assumption); (case P1 => k_upd); (case P2 => k_upd); (case P3 => k_upd); (case n1 => (first | assumption | k_ne)); (case n2 => (first | assumption | k_ne)); (case n3 => k_all); k_whole; intro _ _ _ _ F' N')
  | ((with_reducible show wpAny _ _ (call (Value.ref 258) _) _ _ _); refine' seek_pk ?B ?F ?X ?T ?hk ?hd ?hu ?h0 ?h1 ?N ?P1 ?P2 ?n1 ?n3 ?_; (case F => k_asm); (case X => k_asm); (case T => k_asm); (case B => k_asm); (case hk => (first | assumption | rfl)); (case N => k_asm); (case hd => (first | omega | ((try simp only [depth_deeper, units_deeper, depth_in1, units_in1]); (try dsimp only [ktrTop]); omega))); (case hu => (first | omega | ((try simp only [depth_deeper, units_deeper, depth_in1, units_in1]); (try dsimp only [ktrTop]); omega))); (case h0 => (first | omega | ((try simp only [depth_deeper, units_deeper, depth_in1, units_in1]); (try dsimp only [ktrTop]); omega))); (case h1 => (first | omega | ((try simp only [depth_deeper, units_deeper, depth_in1, units_in1]); (try dsimp only [ktrTop]); omega))); (case P1 => k_upd); (case P2 => k_upd); (case n1 => (first | assumption | k_ne)); (case n3 => k_all); k_whole; intro _ _ _ _ F' N')
  | ((with_reducible show wpAny _ _ (call (Value.ref 274) _) _ _ _); refine' read_pk ?B ?F ?X ?T ?hk ?hd ?hu ?h1 ?hp ?hz ?N ?P1 ?P2 ?P3 ?n1 ?n2 ?n3 ?_; (case F => k_asm); (case X => k_asm); (case T => k_asm); (case B => k_asm); (case hk => (first | assumption | rfl)); (case N => k_asm); (case hd => (first | omega | ((try simp only [depth_deeper, units_deeper, depth_in1, units_in1]); (try dsimp only [ktrTop]); omega))); (case hu => (first | omega | ((try simp only [depth_deeper, units_deeper, depth_in1, units_in1]); (try dsimp only [ktrTop]); omega))); (case h1 => (first | omega | ((try simp only [depth_deeper, units_deeper, depth_in1, units_in1]); (try dsimp only [ktrTop]); omega))); (case hp => (first | omega | ((try simp only [depth_deeper, units_deeper, depth_in1, units_in1]); (try dsimp only [ktrTop]); omega))); (case hz => assumption); (case P1 => k_upd); (case P2 => k_upd); (case P3 => k_upd); (case n1 => (first | assumption | k_ne)); (case n2 => (first | assumption | k_ne)); (case n3 => k_all); k_whole; intro _ _ _ _ F' N')
  | ((with_reducible show wpAny _ _ (call (Value.ref 274) _) _ _ _); refine' full_pk ?B ?F ?X ?T ?hk ?hd ?hu ?hp ?hz ?N ?P1 ?P2 ?P3 ?n1 ?n2 ?n3 ?_; (case F => k_asm); (case X => k_asm); (case T => k_asm); (case B => k_asm); (case hk => (first | assumption | rfl)); (case N => k_asm); (case hd => (first | omega | ((try simp only [depth_deeper, units_deeper, depth_in1, units_in1]); (try dsimp only [ktrTop]); omega))); (case hu => (first | omega | ((try simp only [depth_deeper, units_deeper, depth_in1, units_in1]); (try dsimp only [ktrTop]); omega))); (case hp => (first | omega | ((try simp only [depth_deeper, units_deeper, depth_in1, units_in1]); (try dsimp only [ktrTop]); omega))); (case hz => assumption); (case P1 => k_upd); (case P2 => k_upd); (case P3 => k_upd); (case n1 => (first | assumption | k_ne)); (case n2 => (first | assumption | k_ne)); (case n3 => k_all); k_whole; intro _ _ _ _ F' N'))))
theorem main : PySem.Challenge.rw_bq5014_02.Holds := by
  refine hd ?_
  intro w s₀ s₁ mg mb G Y fa o pm cd doc dV kV ho hfd hcd hD hmg hg args vals as hpre hlay hrd hwl hlo
  have KX := kIn_of Y
  have X := (Ground.X G).1
  have V := (Ground.X G).2
  try w_nolog (first | (have GL := glob_more (Ground.glob G (by first | k_qdec | decide +kernel) (by first | k_qdec | decide +kernel)) V) | (have GL := glob_more (Ground.glob G (by decide +kernel)) V))
  refine Ground.open G ?_
  intro T B D TE TW
  try (refine guard_noD D (by decide +kernel) ?_; clear D)
  obtain ⟨_, _, M⟩ := bmod_of_top T
  have TA := at_of_top T
  try (obtain ⟨_, _, he, B0⟩ := based_of_top T rfl hmg ho hfd; have he' : cd = _ := he; subst he'; clear he)
  clear hmg
  wrow_args hpre hlay hrd hwl hlo
  refine enter_callC ?_
  w_top on
  refine codeC_mono ?_ (fun _ _ g => GoodW.toG g)
  have K0 := below_caller (Top.heap T)
  have he := Dflts.none hD rfl; subst he
  refine call_fullC (by decide) ho hfd (Top.nolimit T) hcd (BindsTo.of_eq rfl) (locs rfl) fun h₁ F => ?_
  w_binds F
  have N0 := (News.nil : News _ _ _ []).at F
  clear hfd TA
  refine' wpC_mono (law_all (w := w) (A₀ := callerA) (base := s₁.heap) (h₀ := s₁.heap)
    (Qf := fun f s' => f = .ret (.bool true) ∧ ∃ h' tk m', Fr s₁.heap s₁.heap.objs.size h' m' ∧ s' = { s₁ with heap := h', toks := tk }) (Ef := fun _ _ => False)
    ?hd ?hu KX T K0 F KX T ?hl ?hi ?hn PassesOwn.never (fun h' tk m' F' => ⟨rfl, h', tk, m', F', rfl⟩)) ?_ fun _ _ h => h.elim
  case hl => assumption
  case hi => assumption
  case hn => omega
  case hd => decide +kernel
  case hu => decide +kernel
  rintro f s' ⟨rfl, h', tk, m', F', rfl⟩
  refine' goodW_bool F' ?zg (raisesW_false ?zn) (postW_of ?zs ?zv ?ze)
  case zg => assumption
  case zn => wrow_none_raised
  case zs => rfl
  case zv => wtm_val
  case ze => first | rfl | w_fin
end Mine
end
open PySem PySem.W PyProof.Rows
theorem PySem.Challenge.cw_bq5014_02_holds : PySem.Challenge.rw_bq5014_02.Holds :=
  Mine.main
