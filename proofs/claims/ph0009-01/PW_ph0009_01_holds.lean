import PyProof.Rows.All
import Wide.All
import OpenK.AllK
import Wide.FinOn
import PySem.Challenge.RW_ph0009_01
set_option Elab.async false
local macro_rules | `(tactic| omega) => `(tactic| lia)

section
open PySem PySem.W PyProof.Rows
set_option maxRecDepth 100000
namespace Mine
open Sem (wp)
/-- a stop for the walk -/
structure Hold (P : Prop) : Prop where
  mk :: (out : P)
/-! A logic that knows a little more of the stack: no built-in that holds a bytearray's memory is running. -/
def badIds : List String := Builtin.Bytes.decodersThatHold ++ ["bytearray.__contains__", "bytearray.__mod__", "bytearray.__rmod__", "_struct.pack_into.held", "bytearray.find.held"]
def good : Code → Bool
  | .builtin id _ => !badIds.contains id
  | _ => true
def AllGood (l : List (Code × Pos)) : Prop := ∀ x ∈ l, good x.1 = true
def Fit (Γ : Ctx) : Prop := good Γ.code = true ∧ AllGood Γ.below
def wpN {α : Type} (M : Model) (A : Around) (t : Sem α) (Q : α → Shared → Prop) (E : Value → Shared → Prop) (s : Shared) : Prop :=
  ∀ Γ p, Γ.In A → Fit Γ → wp M Γ t (fun a _ s' => Q a s') (fun e _ s' => E e s') p s
def codeN (M : Model) (A : Around) (c : Code) (R : Result → Shared → Prop) (s : Shared) : Prop :=
  ∀ Γ p, Γ.code = c → Γ.Below A → AllGood Γ.below → wpCode M Γ R p s
section
variable {α β : Type} {M : Model} {A : Around} {E : Value → Shared → Prop} {s : Shared}
theorem wpN_of {t : Sem α} {Q : α → Shared → Prop} (h : wpAny M A t Q E s) : wpN M A t Q E s := fun Γ p hΓ _ => h Γ p hΓ
theorem codeN_of {c : Code} {R : Result → Shared → Prop} (h : codeAny M A c R s) : codeN M A c R s := fun Γ p hc hΓ _ => h Γ p hc hΓ
theorem wpN_pure {a : α} {Q : α → Shared → Prop} (h : Q a s) : wpN M A (pure a) Q E s := fun _ _ _ _ => h
theorem wpN_mono {t : Sem α} {Q Q' : α → Shared → Prop} {E' : Value → Shared → Prop} (h : wpN M A t Q E s)
    (hQ : ∀ a s, Q a s → Q' a s) (hE : ∀ e s, E e s → E' e s) : wpN M A t Q' E' s :=
  fun Γ p hΓ hF => Sem.wp_mono M Γ t (fun a _ s => hQ a s) (fun e _ s => hE e s) p s (h Γ p hΓ hF)
theorem wpN_bind {m : Sem α} {f : α → Sem β} {Q : β → Shared → Prop} (h : wpN M A m (fun a s' => wpN M A (f a) Q E s') E s) :
    wpN M A (m >>= f) Q E s := fun Γ p hΓ hF => by
  rw [Sem.wp_bind']
  exact Sem.wp_mono M Γ m (fun a p' s' h' => h' Γ p' hΓ hF) (fun _ _ _ h' => h') p s (h Γ p hΓ hF)
theorem wpN_bindA {m : Sem α} {f : α → Sem β} {Q : β → Shared → Prop} (h : wpAny M A m (fun a s' => wpN M A (f a) Q E s') E s) :
    wpN M A (m >>= f) Q E s := wpN_bind (wpN_of h)
theorem wpN_abs {t : Sem α} {Q : α → Shared → Prop} (Z : (α → Shared → Prop) → (Value → Shared → Prop) → Prop) (hZ : Z Q E) (h : ∀ Q' E', Z Q' E' → wpN M A t Q' E' s) : wpN M A t Q E s := h Q E hZ
theorem wpAny_abs {t : Sem α} {Q : α → Shared → Prop} (Z : (α → Shared → Prop) → (Value → Shared → Prop) → Prop) (hZ : Z Q E) (h : ∀ Q' E', Z Q' E' → wpAny M A t Q' E' s) : wpAny M A t Q E s := h Q E hZ
theorem wpN_ofH {t : Sem α} {Q : α → Shared → Prop} (h : wpAny M A t (fun a s' => Hold (Q a s')) E s) : wpN M A t Q E s := wpN_of (wpAny_mono h (fun _ _ x => x.out) fun _ _ x => x)
theorem wpAny_ofH {t : Sem α} {Q : α → Shared → Prop} (h : wpAny M A t (fun a s' => Hold (Q a s')) E s) : wpAny M A t Q E s := wpAny_mono h (fun _ _ x => x.out) fun _ _ x => x
theorem wpN_onRaise {m : Sem α} {k : Value → Sem Unit} {Q : α → Shared → Prop}
    (h : wpN M A m Q (fun e s' => wpAny M A (k e) (fun _ s'' => E e s'') E s') s) : wpN M A (m.onRaise k) Q E s := fun Γ p hΓ hF => by
  rw [Sem.wp_onRaise]
  exact Sem.wp_mono M Γ m (fun _ _ _ h' => h') (fun e p' s' h' => h' Γ p' hΓ) p s (h Γ p hΓ hF)
theorem wpN_holding {vs : List Value} {m : Sem α} {Q : α → Shared → Prop} (h : wpN M A m Q E s) : wpN M A (holding vs m) Q E s :=
  fun Γ p hΓ hF => by rw [Sem.wp_holding]; exact h Γ p hΓ hF
theorem wpN_of_in1 {t : Sem α} {Q : α → Shared → Prop} (h : wpN M A.in1 t Q E s) : wpN M A t Q E s :=
  fun Γ p hΓ => h Γ p ⟨hΓ.1, hΓ.2.1, hΓ.2.2.1, hΓ.2.2.2.1, Nat.le_succ_of_le hΓ.2.2.2.2⟩
theorem codeN_mono {c : Code} {R R' : Result → Shared → Prop} (h : codeN M A c R s) (hR : ∀ r s, R r s → R' r s) : codeN M A c R' s :=
  fun Γ p hc hΓ hF => wpCode_mono hR (h Γ p hc hΓ hF)
theorem fit_enter {Γ : Ctx} (hF : Fit Γ) (c : Code) (hd : Option Value) (p : Pos) : AllGood (Γ.enter c hd p).below := by
  intro x hx
  rcases List.mem_cons.mp hx with rfl | hx
  · exact hF.1
  · exact hF.2 x hx
theorem wpN_run {c : Code} {h : Option Value} {Q : Flow → Shared → Prop}
    (hc : codeN M (A.mark h) c (fun r s' => match r with | .ok f => Q f s' | .error e => E e s') s) (hnb : h ≠ some byPass := by intro x; cases x) :
    wpN M A (run c h) Q E s :=
  fun Γ p hΓ hF => by rw [Sem.wp_run]; exact hc _ p rfl (hΓ.enter c h p hnb) (fit_enter hF c h p)
theorem wpN_runValue {c : Code} {Q : Value → Shared → Prop}
    (hc : codeN M A c (fun r s' => match r with | .ok (.ret v) => Q v s' | .ok _ => False | .error e => E e s') s) :
    wpN M A (runValue c) Q E s := fun Γ p hΓ hF => by
  rw [Sem.wp_runValue]; exact hc _ p rfl (hΓ.enter c none p (by intro x; cases x)) (fit_enter hF c none p)
theorem wpN_call {f : Value} {pos : List Value} {kw : List (Str × Value)} {Q : Value → Shared → Prop}
    (hc : codeN M A (.call f ⟨pos, kw⟩) (fun r s' => match r with | .ok (.ret v) => Q v s' | .ok _ => False | .error e => E e s') s) :
    wpN M A (call f pos kw) Q E s := wpN_runValue hc
theorem codeN_of_tree {c : Code} {R : Result → Shared → Prop} (hg : good c = true)
    (h : wpN M (A.under c) (M.den c) (fun fin s' => match fin with | .done f => R (.ok f) s' | .again c' => c'.quiet = true ∧ codeN M A c' R s')
      (fun e s' => R (.error e) s') s) : codeN M A c R s := fun Γ p hc hΓ hF => by
  rw [wpCode_iff_wp, hc]
  refine Sem.wp_mono M Γ _ (fun fin p' s' h' => ?_) (fun _ _ _ h' => h') p s (h Γ p (hc ▸ hΓ.in) ⟨hc ▸ hg, hF⟩)
  cases fin with
  | done f => exact h'
  | again c' => exact ⟨h'.1, h'.2 (Γ.goto c') p' rfl (hΓ.goto c') hF⟩
theorem codeN_loop {c : Code} {R : Result → Shared → Prop} (hg : good c = true) (hq : c.quiet = true) (I : Nat → Shared → Prop)
    (turn : ∀ n s, I n s → wpN M (A.under c) (M.den c)
      (fun fin s' => match fin with | .done f => R (.ok f) s' | .again c' => (c' = c ∧ ∃ m, m < n ∧ I m s') ∨ (c'.quiet = true ∧ codeN M A c' R s')) (fun e s' => R (.error e) s') s)
    (n : Nat) (h : I n s) : codeN M A c R s := by
  induction n using Nat.strongRecOn generalizing s with
  | ind n ih =>
    refine codeN_of_tree hg (wpN_mono (turn n s h) (fun fin s' hf => ?_) fun _ _ h' => h')
    cases fin with
    | done f => exact hf
    | again c' =>
      rcases hf with ⟨rfl, m, hm, hI⟩ | hf
      · exact ⟨hq, ih m hm hI⟩
      · exact hf
theorem ex_not {self : Value} {c : Code} {q : Pos} (hg : good c = true) : (match (c, q) with
    | (.builtin "bytearray.__contains__" ⟨v :: _, _⟩, _) | (.builtin "bytearray.__mod__" ⟨v :: _, _⟩, _)
    | (.builtin "bytearray.__rmod__" ⟨_ :: v :: _, _⟩, _) | (.builtin "_struct.pack_into.held" ⟨v :: _, _⟩, _) => Builtin.Bytes.sameRef v self
    | (.builtin "bytearray.find.held" ⟨_ :: _ :: held, _⟩, _) => held.any (Builtin.Bytes.sameRef self)
    | (.builtin id ⟨v :: _, _⟩, _) => Builtin.Bytes.sameRef v self && Builtin.Bytes.decodersThatHold.contains id
    | _ => false) = false := by
  cases c <;> try rfl
  rename_i id args
  have hb : badIds.contains id = false := by simpa [good] using hg
  have hd : Builtin.Bytes.decodersThatHold.contains id = false := by
    simp only [badIds, List.contains_append, Bool.or_eq_false_iff] at hb
    exact hb.1
  have n1 : ¬ id = "bytearray.__contains__" := fun e => absurd hb (by rw [e]; decide +kernel)
  have n2 : ¬ id = "bytearray.__mod__" := fun e => absurd hb (by rw [e]; decide +kernel)
  have n3 : ¬ id = "bytearray.__rmod__" := fun e => absurd hb (by rw [e]; decide +kernel)
  have n4 : ¬ id = "_struct.pack_into.held" := fun e => absurd hb (by rw [e]; decide +kernel)
  have n5 : ¬ id = "bytearray.find.held" := fun e => absurd hb (by rw [e]; decide +kernel)
  obtain ⟨pos, kw⟩ := args
  delta ex_not.match_1
  refine Eq.trans (dif_neg n1) (Eq.trans (dif_neg n2) (Eq.trans (dif_neg n3) (Eq.trans (dif_neg n4) (Eq.trans (dif_neg n5) ?_))))
  cases pos with
  | nil => rfl
  | cons v vs =>
    show (Builtin.Bytes.sameRef v self && Builtin.Bytes.decodersThatHold.contains id) = false
    rw [hd, Bool.and_false]
/-- none holds the memory of any bytearray -/
theorem wpN_exported {self : Value} {Q : Bool → Shared → Prop} (h : Q false s) : wpN M A (Builtin.Bytes.exported self) Q E s := by
  intro Γ p _ hF
  have key (l : List (Code × Pos)) (hl : AllGood l) : (l.any fun
    | (.builtin "bytearray.__contains__" ⟨v :: _, _⟩, _) | (.builtin "bytearray.__mod__" ⟨v :: _, _⟩, _)
    | (.builtin "bytearray.__rmod__" ⟨_ :: v :: _, _⟩, _) | (.builtin "_struct.pack_into.held" ⟨v :: _, _⟩, _) => Builtin.Bytes.sameRef v self
    | (.builtin "bytearray.find.held" ⟨_ :: _ :: held, _⟩, _) => held.any (Builtin.Bytes.sameRef self)
    | (.builtin id ⟨v :: _, _⟩, _) => Builtin.Bytes.sameRef v self && Builtin.Bytes.decodersThatHold.contains id
    | _ => false) = false := List.any_eq_false.mpr fun x hx => Bool.not_eq_true _ ▸ ex_not (c := x.1) (q := x.2) (hl x hx)
  have := key ((Γ.code, p) :: Γ.below) (fun x hx => by rcases List.mem_cons.mp hx with rfl | hx; exact hF.1; exact hF.2 x hx)
  show Q (((Γ.code, p) :: Γ.below).any _) s
  exact (congrArg (fun b => Q b s) this).mpr h
end
section
variable {prog : Program} {w : World} {A : Around} {E : Value → Shared → Prop} {s : Shared} {R : Result → Shared → Prop}
theorem codeN_builtin {id : String} {args : Args} {b : Builtin} (hg : badIds.contains id = false) (hb : entryFor table id = some b)
    (h : wpN (model prog w) (A.under (.builtin id args)) (b args)
      (fun fin s' => match fin with | .done f => R (.ok f) s' | .again c' => c'.quiet = true ∧ codeN (model prog w) A c' R s') (fun e s' => R (.error e) s') s) :
    codeN (model prog w) A (.builtin id args) R s := by
  refine codeN_of_tree (by show (!badIds.contains id) = true; rw [hg]; rfl) ?_
  show wpN _ _ (match entryFor table id with | some b => b args | none => unsupported ((withoutEnding? id "#data").getD id)) _ _ s
  rw [hb]; exact h
theorem codeN_call_builtin {id : String} {args : Args} {b : Builtin} (hg : badIds.contains id = false) (hq : plainId id = true) (hb : entryFor table id = some b)
    (h : wpAny (model prog w) A.in1 (checkBuiltinCall id args) (fun _ s₁ => wpN (model prog w) A.in1 (b args)
      (fun fin s' => match fin with | .done f => R (.ok f) s' | .again c' => c'.quiet = true ∧ codeN (model prog w) A c' R s') (fun e s' => R (.error e) s') s₁)
      (fun e s' => R (.error e) s') s) : codeN (model prog w) A (.call (.builtin id) args) R s := by
  refine codeN_of_tree rfl ?_
  show wpN _ A.in1 (do checkBuiltinCall id args; again (.builtin id args)) _ _ s
  refine wpN_bindA (wpAny_mono h (fun _ s₁ h₁ => wpN_pure (And.intro (plainId_quiet hq args) (codeN_builtin hg hb ?_))) fun _ _ h' => h')
  rw [Around.under_plainId hq args]; exact h₁
end
end Mine
end

section
open PySem PySem.W PyProof.Rows PySem.Calls
set_option maxRecDepth 100000
namespace Mine
open Sem (wp)
theorem caller_fit : Fit (⟨.builtin "claim.caller" {}, none, none, [], none⟩ : Ctx) := ⟨by decide +kernel, fun x hx => nomatch hx⟩
theorem ends_N {prog : Program} {w : World} {t : Sem Fin} {s : Shared} {R : Result → Shared → Prop} (hreg : s.asleep)
    (h : wpN (model prog w) callerA t (fun fin s' => ∃ f, fin = .done f ∧ (R (.ok f) s' ∧ leftWithCleanup s'.gens = false)) (fun e s' => R (.error e) s' ∧ leftWithCleanup s'.gens = false) s) :
    ∃ n r s' s'', runN (denote table) prog w n s ⟨t, .builtin "claim.caller" {}, default, []⟩ = .halted (outcomeOf r) s' ∧
      schedN (denote table) prog w n (.single s ⟨t, .builtin "claim.caller" {}, default, []⟩) = .halted (outcomeOf r) s' ∧ s'.forget = s''.forget ∧ R r s'' := by
  have h' : wp (model prog w) ⟨.builtin "claim.caller" {}, none, none, [], none⟩ t (Sem.finPost (model prog w) ⟨.builtin "claim.caller" {}, none, none, [], none⟩ fun r s' => R r s' ∧ leftWithCleanup s'.gens = false)
      (fun e _ s' => R (.error e) s' ∧ leftWithCleanup s'.gens = false) default s := by
    refine Sem.wp_mono (model prog w) _ t (fun fin p' s' x => ?_) (fun _ _ _ x => x) default s (h _ default caller_in caller_fit)
    obtain ⟨f, rfl, hf⟩ := x
    exact hf
  obtain ⟨n, r, s₁, s₂, hs, hn, hfo, hR⟩ := wp_halts_full (M := model prog w) (R := R) hreg h'
  exact ⟨n, r, s₂, s₁, hn, hs, hfo, hR⟩
theorem callFrom_N {c : ClaimW} {tree : List Value → Sem Fin} {w : World} {s : Shared} {free : Addr → Prop} {gens : Prop} {kept : Heap → Prop} (hz : s.asleep) (hgens : s.gens = #[])
    (hspec : ∀ args, c.pre args = true → WData.layableAll args = true → ∀ ord : List DictEntry → List DictEntry, (∀ l, (ord l).Perm l) →
      ∃ vs s₁, layAllW c.records (classAt s.heap) w.params ord args s = some (vs, s₁) ∧
        wpN (model c.prog w) callerA (tree vs) (fun fin s' => ∃ f, fin = .done f ∧ (c.Ends s args vs s₁ (.ok f) s' ∧ s'.os = s.os ∧ AllBare s'.gens ∧ kept s'.heap))
          (fun e s' => c.Ends s args vs s₁ (.error e) s' ∧ s'.os = s.os ∧ AllBare s'.gens ∧ kept s'.heap) s₁) :
    c.CallFrom (fun vs => ⟨tree vs, .builtin "claim.caller" {}, default, []⟩) w free gens kept s := by
  intro args hpre hlay ord hord
  obtain ⟨vs, s₁, hlaid, hcode⟩ := hspec args hpre hlay ord hord
  have hal := layAllW_rest _ _ _ hlaid
  obtain ⟨k, r, s', s'', hrun, hsched, hfo, hcase, hos, hkp⟩ := ends_N (prog := c.prog) (w := w) (t := tree vs) (s := s₁)
    (R := fun r s' => c.Ends s args vs s₁ r s' ∧ s'.os = s.os ∧ kept s'.heap) (Shared.asleep_of_life hal.2.2.2 hz)
    (wpN_mono hcode (fun _ _ ⟨f, e, h1, h2, h3, h4⟩ => ⟨f, e, ⟨h1, h2, h4⟩, leftWithCleanup_false_of_bare h3⟩) fun _ _ ⟨h1, h2, h3, h4⟩ => ⟨⟨h1, h2, h4⟩, leftWithCleanup_false_of_bare h3⟩)
  obtain ⟨eh, _, _, eo, _⟩ := Shared.forget_eq hfo
  have hcase := hcase.congr eh
  have hkp : kept s'.heap := by rw [eh]; exact hkp
  rw [← eo] at hos
  have hlife : s'.heap.life = s.heap.life := (runN_life _ _ _ hrun).trans hal.2.2.2
  refine ⟨vs, s₁, hlaid, k, _, s', hsched, ?_, (fun _ i x hx => by rw [hgens] at hx; simp at hx), hkp, by rw [hlife], Shared.rest_eq hos⟩
  rcases hcase with ⟨v, rfl, d1, d2, d3, d4, d5⟩ | ⟨e, ob, cls, rfl, d1, d2, d3, d4, d5⟩
  · exact .inl ⟨v, rfl, d1, d2, d3, fun b o y _ => d4 b o y, d5⟩
  · exact .inr ⟨e, ob, cls, rfl, d1, d2, d3, d4, fun b o y _ => d5 b o y⟩
abbrev WalkI (q : Program) (loose : List Str) (XP : (Str → Option Value) → Heap → Prop) (YP : World → Heap → Prop) (r : RowW) (d : DefRec) (kwd : List (Str × Expr)) : Prop :=
  ∀ (w : World) (s₀ s₁ : Shared) (mg mb : Str → Option Value), Ground q loose r.records XP w s₀ mg mb s₁.heap → YP w s₁.heap → ∀ (a : Addr) (o : Obj) (pm cd doc dV kV : Value), s₁.heap.get? a = some o →
    o.data = .func { docDef d.name d.params d.body d.scope pm cd doc with defaults := dV, kwdefaults := kV } → s₁.heap.CodeRec cd d.name → Dflts mg s₁.heap d.params kwd dV kV → mg d.name = some (.ref a) → s₁.gens = #[] →
    ∀ (args : List WData) (vals : List Value) (as : List Addr), r.claim.pre args = true → WData.layableAll args = true → ReadsAllW r.records (classAt s₀.heap) s₁.heap vals args as → WellAll w.params s₁.heap vals args → (∀ a ∈ as, (a == sysModules) = false) →
      wpN (model r.prog w) callerA (PySem.call (.ref a) vals) (fun v s' => GoodWG r.claim (classAt s₀.heap) (ExcName.means s₀.heap) args s₁ (.ok (.ret v)) s')
        (fun e s' => GoodWG r.claim (classAt s₀.heap) (ExcName.means s₀.heap) args s₁ (.error e) s') s₁
theorem PySem.W.holds_open {r : OpenRow} {q : Program} {loose : List Str} {Xt : Shared → Bool} {XP : (Str → Option Value) → Heap → Prop} {α : Type} {Yf : Shared → α} {Ya : World → α} {YP : World → Heap → Prop} {d : DefRec} {kwd : List (Str × Expr)} {N : Nat}
    (left : LeftO r.prog q loose Xt Yf Ya N) (hY : ∀ w s, Yf s = Ya w → YP w s.heap) (hYk : ∀ w h h', YP w h → (∀ b o, h.get? b = some o → h'.get? b = some o) → YP w h')
    (hX : ∀ s, Xt s = true → XP (s.heap.nsMap mainGlobals) s.heap) (hXk : ∀ mg h h', XP mg h → (∀ b o, h.get? b = some o → h'.get? b = some o) → XP mg h')
    (hdef : defOf q r.name = some (d, kwd)) (hp : r.prog.theDef r.name = some (d.params, d.body, d.scope)) (hk : kwWritten? d.params.kwonlyargs d.params.kw_defaults = some kwd) (hRf : ∀ s, Xt s = true → RecFacts r.records s.heap) (hwr : (!r.writes || r.records.isEmpty) = true)
    (k1 : r.wellSaid = true) (ok : (chainsOk q && opensWell r.prog && (frees r.toRowW && r.within.isEmpty)) = true) (hb : r.prog.bare) (hw : r.toRowW.promised)
    (call : WalkI q loose XP YP r.toRowW d kwd) : r.Holds := by
  obtain ⟨ok, k5⟩ := Bool.and_eq_true_iff.mp ok
  obtain ⟨hch, o1⟩ := Bool.and_eq_true_iff.mp ok
  obtain ⟨k5, k6⟩ := Bool.and_eq_true_iff.mp k5
  obtain ⟨hsame, hu, ha, hap, hm⟩ := frees_parts k5
  refine ⟨k1, hw, ⟨hb, o1, by show r.makers.map _ = []; rw [hm]; rfl⟩, hw.witness, fun w => ⟨(left.behind hX hch w).1, fun s' hs' => ?_⟩⟩
  obtain ⟨s₀, hf, hg0, s, hT, hz, hgens, hg, G00, y⟩ := (left.behind (XP := fun mg h => XP mg h ∧ RecFacts r.records h) (fun s hs => ⟨hX s hs, hRf s hs⟩) hch w).2 s' hs'
  have G0 : Ground q loose [] XP w s (s.heap.nsMap mainGlobals) (s.heap.nsMap builtinsNs) s.heap := ⟨G00.T, G00.B, G00.D, G00.TE, G00.TD, G00.W, G00.X.1, G00.cls, G00.has, G00.apart, G00.once, G00.K⟩
  have RF := G00.X.2
  refine ⟨s₀, hf, hg0, s, hT, ?_, RF.1, RF.2.1, ?_⟩
  · intro n hn
    obtain rfl : n = r.name := by split at hn <;> simp_all
    exact pinned_of_view hg G0 hdef hp hk
  have hgens : s.gens = #[] := Array.eq_empty_of_size_eq_zero (beq_iff_eq.mp hgens)
  have G : Ground q loose r.records XP w s _ _ s.heap := RF.ground G0
  refine callFrom_N (c := r.toRowW.claim) hz hgens fun args hpre hlay ord hord => ?_
  obtain ⟨⟨vs, s₁⟩, hlaid⟩ := Option.isSome_iff_exists.mp (layAllW_isSome (P := w.params) (ord := ord) G.has args r.args s (pre_splitW hpre).1)
  have keeps := layAllW_keeps _ _ _ hlaid
  have hal := layAllW_rest _ _ _ hlaid
  obtain ⟨as, hrd, hin, hold⟩ := reads_layAllW hord _ _ _ hlaid hlay s₁.heap (fun _ _ e => e)
  have L : Laid r.records w s s₁ args vs as := ⟨⟨ord, hord, hlaid⟩, hrd, hin, hold, keeps, hal.1.trans hgens, hal.2.2.1⟩
  have G₁ := G.keeps hXk keeps
  obtain ⟨a, o, pm, cd, doc, dV, kV, h1, h2, h3, h4, h5⟩ := G₁.fn hdef
  have h := call w s s₁ _ _ G₁ (hYk _ _ _ (hY w s y) keeps) a o pm cd doc dV kV h2 h3 h4 h5 (defOf_name hdef ▸ h1) L.gens args vs as hpre hlay L.reads L.well (L.low G.low)
  have hi := ident_freeW hu ha hap
  have hwi : r.toRowW.claim.within = [] := List.isEmpty_iff.mp k6
  refine ⟨vs, s₁, hlaid, wpN_bindA (wpAny_nsGet G₁.T.g ?_)⟩
  rw [h1]
  refine wpN_bind (wpN_mono h (fun v s' g => wpN_pure ⟨_, rfl, ?_⟩) fun e s' g => ?_)
  all_goals
    have z := g.laid (c := r.toRowW.claim) hsame hwi hi L
    exact ⟨z.1, z.2.1, z.2.2, fun q => ⟨namesKept_of hT hg _ keeps g.2.1.old, noTable hwr q⟩⟩
set_option maxHeartbeats 8000000
open_top hd for PySem.Challenge.rw_ph0009_01
example : True := by w_top off; trivial
end Mine
end

section
open PySem PySem.W PyProof.Rows
set_option maxRecDepth 100000
set_option maxHeartbeats 8000000
namespace Mine
abbrev CtrV (w : World) (mean : ExcName → Option Value) (mg mb : Str → Option Value) (d : Nat) (f : Addr) (news : List (Addr × Obj)) (vs : List Value) (R : Tok → Value) : Prop :=
  ∀ (dp un : Nat) (gd : Option (List Code)) (cn : Str) (cs : Scope) (a : Addr) (ccd : Value) (cl : List (Str × Addr)) (outer : List Env) (A₀ : Around) (base h₀ : Heap) (L : Addr) (m : Str → Option Value) (s : Shared) (Q E : Value → Shared → Prop),
    Below A₀ base outer h₀ → Fr h₀ L s.heap m → (hd.heap_39 w.params).In h₀ → News h₀ L s.heap news → Top hd.view_39 (looseW hd.view_39 []) mean mg mb h₀ → cs.kind = .function → dp + d < recursionLimit → un + 10 * d < cLine →
    (∀ (t : Tok) (h' : Heap) (tk' : Nat), Fr h₀ L h' m → News h₀ L h' news → Q (R t) { s with heap := h', toks := tk' }) →
      wpAny (model PySem.Challenge.rw_ph0009_01.row.prog w) (ktrTop dp un gd cn cs L a ccd cl outer) (call (.ref f) vs) Q E s
abbrev CtrN (w : World) (mean : ExcName → Option Value) (mg mb : Str → Option Value) (d : Nat) (f : Addr) (news : List (Addr × Obj)) (vs : List Value) (R : Tok → Value) : Prop :=
  ∀ (dp un : Nat) (gd : Option (List Code)) (cn : Str) (cs : Scope) (a : Addr) (ccd : Value) (cl : List (Str × Addr)) (outer : List Env) (A₀ : Around) (base h₀ : Heap) (L : Addr) (m : Str → Option Value) (s : Shared) (Q E : Value → Shared → Prop),
    Below A₀ base outer h₀ → Fr h₀ L s.heap m → (hd.heap_39 w.params).In h₀ → News h₀ L s.heap news → Top hd.view_39 (looseW hd.view_39 []) mean mg mb h₀ → cs.kind = .function → dp + d < recursionLimit → un + 10 * d < cLine →
    (∀ (t : Tok) (h' : Heap) (tk' : Nat), Fr h₀ L h' m → News h₀ L h' news → Q (R t) { s with heap := h', toks := tk' }) →
      wpN (model PySem.Challenge.rw_ph0009_01.row.prog w) (ktrTop dp un gd cn cs L a ccd cl outer) (call (.ref f) vs) Q E s
abbrev CtrL (w : World) (mean : ExcName → Option Value) (mg mb : Str → Option Value) (d : Nat) (f : Addr) (news : List (Addr × Obj)) (vs : List Value) (res : List Int) : Prop :=
  ∀ (dp un : Nat) (gd : Option (List Code)) (cn : Str) (cs : Scope) (a : Addr) (ccd : Value) (cl : List (Str × Addr)) (outer : List Env) (A₀ : Around) (base h₀ : Heap) (L : Addr) (m : Str → Option Value) (s : Shared) (Q E : Value → Shared → Prop),
    Below A₀ base outer h₀ → Fr h₀ L s.heap m → (hd.heap_39 w.params).In h₀ → News h₀ L s.heap news → Top hd.view_39 (looseW hd.view_39 []) mean mg mb h₀ → cs.kind = .function → dp + d < recursionLimit → un + 10 * d < cLine →
    (∀ (D : Addr) (ys : List Value) (n : Nat) (h' : Heap) (tk' : Nat), IntsAre ys res → Fr h₀ L h' m → News h₀ L h' ((D, listOf ys.toArray n) :: news) → (∀ p ∈ news, p.1 ≠ D) → Q (.ref D) { s with heap := h', toks := tk' }) →
      wpAny (model PySem.Challenge.rw_ph0009_01.row.prog w) (ktrTop dp un gd cn cs L a ccd cl outer) (call (.ref f) vs) Q E s
theorem useL {w : World} {mean : ExcName → Option Value} {mg mb : Str → Option Value} {d : Nat} {f : Addr} {news : List (Addr × Obj)} {vs : List Value} {res : List Int} (c : CtrL w mean mg mb d f news vs res)
    {dp un : Nat} {gd : Option (List Code)} {cn : Str} {cs : Scope} {a : Addr} {ccd : Value} {cl : List (Str × Addr)} {outer : List Env} {A₀ : Around} {base h₀ : Heap} {L : Addr} {m : Str → Option Value} {s : Shared} {Q E : Value → Shared → Prop}
    (hB : Below A₀ base outer h₀) (hF : Fr h₀ L s.heap m) (hK : (hd.heap_39 w.params).In h₀) (hN : News h₀ L s.heap news) (hT : Top hd.view_39 (looseW hd.view_39 []) mean mg mb h₀) (hk : cs.kind = .function) (hdp : dp + d < recursionLimit) (hun : un + 10 * d < cLine)
    (hret : ∀ (D : Addr) (ys : List Value) (n : Nat) (h' : Heap) (tk' : Nat), IntsAre ys res → Fr h₀ L h' m → News h₀ L h' ((D, listOf ys.toArray n) :: news) → (∀ p ∈ news, p.1 ≠ D) → Q (.ref D) { s with heap := h', toks := tk' }) :
      wpAny (model PySem.Challenge.rw_ph0009_01.row.prog w) (ktrTop dp un gd cn cs L a ccd cl outer) (call (.ref f) vs) Q E s := c dp un gd cn cs a ccd cl outer A₀ base h₀ L m s Q E hB hF hK hN hT hk hdp hun hret
theorem useV {w : World} {mean : ExcName → Option Value} {mg mb : Str → Option Value} {d : Nat} {f : Addr} {news : List (Addr × Obj)} {vs : List Value} {R : Tok → Value} (c : CtrV w mean mg mb d f news vs R)
    {dp un : Nat} {gd : Option (List Code)} {cn : Str} {cs : Scope} {a : Addr} {ccd : Value} {cl : List (Str × Addr)} {outer : List Env} {A₀ : Around} {base h₀ : Heap} {L : Addr} {m : Str → Option Value} {s : Shared} {Q E : Value → Shared → Prop}
    (hB : Below A₀ base outer h₀) (hF : Fr h₀ L s.heap m) (hK : (hd.heap_39 w.params).In h₀) (hN : News h₀ L s.heap news) (hT : Top hd.view_39 (looseW hd.view_39 []) mean mg mb h₀) (hk : cs.kind = .function) (hdp : dp + d < recursionLimit) (hun : un + 10 * d < cLine)
    (hret : ∀ (t : Tok) (h' : Heap) (tk' : Nat), Fr h₀ L h' m → News h₀ L h' news → Q (R t) { s with heap := h', toks := tk' }) :
      wpAny (model PySem.Challenge.rw_ph0009_01.row.prog w) (ktrTop dp un gd cn cs L a ccd cl outer) (call (.ref f) vs) Q E s := c dp un gd cn cs a ccd cl outer A₀ base h₀ L m s Q E hB hF hK hN hT hk hdp hun hret
end Mine
end

section
open PySem PySem.W PyProof.Rows PySem.Calls
set_option maxRecDepth 100000
namespace Mine
section
variable {prog : Program} {w : World} {A A₀ : Around} {E : Value → Shared → Prop} {R : Result → Shared → Prop} {s : Shared}
theorem codeN_func {body : List Stmt} {env : Env}
    (h : wpN (model prog w) (A.deeper env) (execs body env) (fun f s' => R (.ok (.ret (match f with | .ret v => v | _ => .none))) s')
      (fun e s' => wpAny (model prog w) (A.deeper env) (leaving env e) (fun _ s'' => R (.error e) s'') (fun e' s'' => R (.error e') s'') s') s) :
    codeN (model prog w) A (.func body env) R s := by
  refine codeN_of_tree rfl ?_
  show wpN _ (A.deeper env) (do point; match ← (execs body env).onRaise (leaving env) with | .ret v => ret v | _ => ret .none) _ _ s
  refine wpN_bindA (wpAny_point (wpN_bind (wpN_onRaise (wpN_mono h (fun f s' h' => ?_) fun _ _ h' => h'))))
  cases f <;> exact wpN_pure h'
theorem codeN_call_function {a : Addr} {args : Args} {o : Obj} {fd : FuncData} {body : List Stmt} (hroom : A.depth < recursionLimit)
    (ho : s.heap.get? a = some o) (hd' : o.data = .func fd) (hco : fd.scope.isCoroutine = false) (hgen : fd.scope.isGenerator = false) (hbody : fd.body = .stmts body) (hcd : s.heap.CodeRec fd.code fd.qualname)
    (h : wpAny (model prog w) A.in1 (bindArgs fd args) (fun binds s₁ =>
      wpAny (model prog w) A.in1 (newFunctionEnv fd.scope fd.globals fd.closure binds (fd.qualname ++ ".<locals>.") (some a) fd.code none fd.builtins)
        (fun env s₂ => s₂.heap.NoLimit ∧ codeN (model prog w) A (.func body env) R s₂) (fun e s' => R (.error e) s') s₁) (fun e s' => R (.error e) s') s) :
    codeN (model prog w) A (.call (.ref a) args) R s := by
  refine codeN_of_tree rfl (wpN_of ?_)
  show wpAny _ A.in1 (callAny (.ref a) args) _ _ s
  simp only [callAny]
  refine wpAny_bind (wpAny_load ho ?_)
  obtain ⟨c, oc, vs, tq, hc, hoc, hdc, hq⟩ := hcd
  simp only [hd', callFunction, hco, hgen, hbody, hc]
  rw [hc] at h
  refine wpAny_bind (m := field (.ref c) 1) (wpAny_field hoc hdc hq (wpAny_bind (wpAny_pure ?_)))
  exact wpAny_bind (wpAny_mono h (fun binds s₁ h₁ => wpAny_bind (wpAny_mono h₁ (fun env s₂ h₂ => wpAny_bind (wpAny_enterFrame h₂.1 hroom
    (wpAny_pure (And.intro rfl h₂.2)))) fun _ _ h' => h')) fun _ _ h' => h')
variable {K : Frag} {L : Addr} {h₀ base : Heap} {m mg mb : Str → Option Value} {news : List (Addr × Obj)} {p : Program} {loose : List Str} {mean : ExcName → Option Value}
theorem code_defN {env : Env} {outer : List Env} {name qual : Str} {params : Arguments} {body : List Stmt} {scope : Scope} {dV kV doc pm cdv ct oc : Value} {an od : Option Addr} {osl : Array (Option Value)} {f : Addr} {args : Args} {binds : List (Str × Value)}
    (B : Below A₀ base outer h₀) (F : Fr h₀ L s.heap m) (X₀ : K.In h₀) (N : News h₀ L s.heap news) (T : Top p loose mean mg mb h₀) (hA : A.frames = some (env :: outer)) (hf : env.frame = some L) (hke : env.scope.kind = .function)
    (ho : K.lookup f = some ⟨oc, od, .func (fnOf name qual params body scope dV kV doc pm an cdv ct), osl⟩) (hcd : codeIn K cdv qual = true) (hroom : A.depth < recursionLimit)
    (hbind : BindsTo s (fnOf name qual params body scope dV kV doc pm an cdv ct) args binds) (hloc : ∀ y ∈ binds, scope.names.lookup y.1 = some .local)
    (h : ∀ g L' h₁, Fr h₀ L g m → Fr g L' h₁ (fun y => binds.reverse.lookup y) → News g L' h₁ news → Below A base (env :: outer) g → K.In g → Top p loose mean mg mb g →
      wpN (model prog w) (A.deeper (envOf qual scope L' f cdv)) (execs body (envOf qual scope L' f cdv))
        (fun fl s' => LeaveK h₀ L m g R (match fl with | .ret v => v | _ => .none) s')
        (fun e s' => wpAny (model prog w) (A.deeper (envOf qual scope L' f cdv)) (leaving (envOf qual scope L' f cdv) e) (fun _ s'' => R (.error e) s'') (fun e' s'' => R (.error e') s'') s')
        { s with heap := h₁, toks := s.toks + binds.length })
    (hco : scope.isCoroutine = false) (hgen : scope.isGenerator = false) (hk : scope.kind = .function)
    (hcell : ∀ x ∈ scope.names, x.2 ≠ .cell) : codeN (model prog w) A (.call (.ref f) args) R s := by
  obtain ⟨FG, BG, st, lv⟩ := groundX (R := R) B F N hA hf hke
  refine codeN_call_function (fd := fnOf name qual params body scope dV kV doc pm an cdv ct) (body := body) hroom ((X₀.keeps F.keep) _ _ ho) rfl hco hgen rfl (codeRec_of (X₀.keeps F.keep) hcd) (hbind _ _ _ _ ?_)
  refine wpAny_newFunctionEnv hcell hloc (fun h₁ hns₀ hsb₀ => ⟨(T.nolimit.keeps F.keep).fresh _ hsb₀, codeN_func ?_⟩) hk
  have hk₁ : ∀ b o, s.heap.get? b = some o → h₁.get? b = some o := fun b o e => hsb₀.extBut b o (Nat.ne_of_lt (Heap.lt_size e)) (Heap.get?_push_of_some _ e)
  exact wpN_mono (h _ s.heap.objs.size h₁ FG ⟨hns₀, fun b o e => hk₁ b o (of_hideAll _ e), Nat.le_of_eq (hideAll_size _ _)⟩
    (fun p hp => ⟨hk₁ _ _ (N p hp).1, Nat.ne_of_lt (Heap.lt_size (N p hp).1), hideAll_none _ (List.mem_map_of_mem hp)⟩) BG (X₀.keeps st) (T.keeps st)) (fun fl s' hl => lv _ _ hl) fun _ _ y => y
end
section
variable {M : Model} {A : Around} {E : Value → Shared → Prop} {s : Shared} {env : Env}
theorem wpN_execs_cons {st : Stmt} {rest : List Stmt} {Q : Flow → Shared → Prop}
    (h : wpN M A (exec st env) (fun f s' => match f with | .next => wpN M A (execs rest env) Q E s' | f => Q f s') E s) : wpN M A (execs (st :: rest) env) Q E s := by
  rw [execs_cons]
  refine wpN_bind (wpN_mono h (fun f s' h' => ?_) fun _ _ x => x)
  cases f <;> first | exact h' | exact wpN_pure h'
theorem wpN_execs_consA {st : Stmt} {rest : List Stmt} {Q : Flow → Shared → Prop}
    (h : wpAny M A (exec st env) (fun f s' => match f with | .next => wpN M A (execs rest env) Q E s' | f => Q f s') E s) : wpN M A (execs (st :: rest) env) Q E s := wpN_execs_cons (wpN_of h)
theorem wpN_Assign_Name {x : Str} {pos' pos : Pos} {value : Expr} {Q : Flow → Shared → Prop}
    (h : wpN M A (eval value env) (fun v s' => wpAny M A (storeName env x v) (fun _ s'' => Q .next s'') E s') E s)
    (hs : swapsWith value (some (.Name x pos')) pos.line env = pure false := by rfl) : wpN M A (exec (.Assign [.Name x pos'] value pos) env) Q E s := by
  rw [exec_Assign_Name env x pos' value pos hs]
  refine wpN_bindA (wpAny_standAt (wpN_bind (wpN_mono h (fun v s' h' => wpN_bindA ?_) fun _ _ x => x)))
  exact wpAny_standAt (wpN_bindA (wpAny_mono (wpAny_bindName h') (fun _ _ x => wpN_pure x) fun _ _ x => x))
theorem wpN_Return {e : Expr} {pos : Pos} {Q : Flow → Shared → Prop} (h : wpN M A (eval e env) (fun v => Q (.ret v)) E s) : wpN M A (exec (.Return (some e) pos) env) Q E s := by
  rw [exec_Return_some]
  exact wpN_bindA (wpAny_standAt (wpN_bind (wpN_mono h (fun v s' h' => wpN_pure h') fun _ _ x => x)))
theorem wpN_If {test : Expr} {body orelse : List Stmt} {pos : Pos} {Q : Flow → Shared → Prop}
    (h : wpN M A (isTrue test env (eval test env)) (fun b s' => if b then wpN M A (execs body env) Q E s' else wpN M A (execs orelse env) Q E s') E s) :
    wpN M A (exec (.If test body orelse pos) env) Q E s := by
  rw [exec_If]
  refine wpN_bindA (wpAny_standAt (wpN_bind (wpN_mono h (fun b s' h' => ?_) fun _ _ x => x)))
  cases b <;> exact h'
end
end Mine
end

section
open PySem PySem.W PyProof.Rows PySem.Calls
set_option maxRecDepth 100000
namespace Mine
section
variable {M : Model} {A : Around} {E : Value → Shared → Prop} {s : Shared} {env : Env} {f : Value} {pos : Pos} {Q : Value → Shared → Prop}
theorem wpN_keep {vs : List Value} {t : Sem Value} (h : wpN M A t Q E s) : wpN M A (t.keep vs) Q E s := fun Γ p hΓ hF => by
  have := h Γ p hΓ hF
  rw [Sem.wp_keep]; exact this
theorem wpN_spliced_nil {Q : List Value → Shared → Prop} (h : Q [] s) : wpN M A (spliced []) Q E s := wpN_pure h
theorem wpN_spliced_cons {x : Sem Value} {rest : List (Bool × Sem Value)} {Q : List Value → Shared → Prop}
    (h : wpN M A x (fun v s₁ => wpN M A (spliced rest) (fun vs s₂ => Q (v :: vs) s₂) E s₁) E s) : wpN M A (spliced ((false, x) :: rest)) Q E s := by
  unfold spliced
  refine wpN_bind (wpN_mono h (fun v s₁ h₁ => ?_) fun _ _ x => x)
  refine wpN_bindA (wpAny_pure ?_)
  exact wpN_bind (wpN_holding (wpN_mono h₁ (fun vs s₂ h₂ => wpN_pure h₂) fun _ _ x => x))
theorem wpN_evalArgs {x : Sem Value} {rest : List (Bool × Sem Value)} {Q : Args → Shared → Prop}
    (h : wpN M A (spliced ((false, x) :: rest)) (fun vs s' => Q ⟨vs, []⟩ s') E s) : wpN M A (evalArgs f true ((false, x) :: rest) []) Q E s := by
  unfold evalArgs
  show wpN M A (spliced ((false, x) :: rest) >>= _) Q E s
  refine wpN_bind (wpN_mono h (fun vs s' h' => ?_) fun _ _ x => x)
  refine wpN_holding ?_
  exact wpN_bindA (wpAny_pure (wpN_bindA (wpAny_pure (wpN_pure h'))))
theorem wpN_callWith {P : Heap → Prop} {x : Sem Value} {rest : List (Bool × Sem Value)} (hplain : rest.any (·.1) = false)
    (hk : ∀ h, P h → ∃ k, (k = Keeper.frame ∨ k = Keeper.machine ∨ k = Keeper.boundFrame) ∧ Looks M h (keeperOf f) k)
    (h : wpN M A (spliced ((false, x) :: rest)) (fun vs s₁ => P s₁.heap ∧ wpN M A (call f vs) Q E s₁) E s) : wpN M A (callWith pos f [] ((false, x) :: rest) []) Q E s := by
  unfold callWith
  refine wpN_bind (wpN_holding (wpN_evalArgs (wpN_mono h (fun vs s₁ h₁ => wpN_bindA (wpAny_standAt ?_)) fun _ _ x => x)))
  obtain ⟨k, hk', L⟩ := hk _ h₁.1
  have hpl : (((false, x) :: rest).any (·.1) || ([] : List (Option Str × Sem Value)).any (·.1.isNone)) = false := by simp only [List.any_cons, hplain, List.any_nil, Bool.or_false]
  simp only [hpl]
  refine wpN_bindA (L.here ?_)
  have tail : ∀ {t : Sem Value}, wpN M A t Q E s₁ → wpN M A (t >>= fun r => holding [r] point >>= fun _ => pure r) Q E s₁ :=
    fun ht => wpN_bind (wpN_mono ht (fun r s₂ hr => wpN_bindA (wpAny_holding (wpAny_point (wpN_pure hr)))) fun _ _ x => x)
  have marked (mk : Value) : wpN M A (callMarked mk f vs []) Q E s₁ := by unfold callMarked; exact wpN_keep h₁.2
  rcases hk' with rfl | rfl | rfl <;> dsimp only <;> first | exact tail h₁.2 | (split <;> first | exact tail h₁.2 | exact tail (marked _))
theorem looks_type {T : String} (h : Heap) (_ : True) : ∃ k, (k = Keeper.frame ∨ k = Keeper.machine ∨ k = Keeper.boundFrame) ∧ Looks M h (keeperOf (.type T)) k :=
  ⟨.machine, .inr (.inl rfl), Looks.of_pure rfl⟩
/-- a call by a name, of at least one argument -/
theorem wpN_Call {P : Heap → Prop} {func e : Expr} {args : List Expr} (fv : Value)
    (hf : wpAny M A (eval func env) (fun v s₁ => v = fv ∧ wpN M A (spliced ((false, eval e env) :: backTo pos (starEach args env))) (fun vs s₂ => P s₂.heap ∧ wpN M A (call fv vs) Q E s₂) E s₁) E s)
    (hk : ∀ h, P h → ∃ k, (k = Keeper.frame ∨ k = Keeper.machine ∨ k = Keeper.boundFrame) ∧ Looks M h (keeperOf fv) k)
    (hplain : (backTo pos (starEach args env)).any (·.1) = false := by rfl)
    (he : eval (.Call func (e :: args) [] pos) env = (eval func env >>= fun v => callWith pos v [] ((false, eval e env) :: backTo pos (starEach args env)) []) := by rfl) :
    wpN M A (eval (.Call func (e :: args) [] pos) env) Q E s := by
  rw [he]
  refine wpN_bindA (wpAny_mono hf (fun v s₁ h₁ => ?_) fun _ _ x => x)
  obtain ⟨rfl, h₁⟩ := h₁
  exact wpN_callWith hplain hk h₁
end
end Mine
end

section
open PySem PySem.W PyProof.Rows PySem.Calls
set_option maxRecDepth 100000
namespace Mine
section
variable {M : Model} {A : Around} {E : Value → Shared → Prop} {s : Shared} {env : Env}
theorem wpN_body {body : List Stmt} {Q : Flow → Shared → Prop} (Z : (Flow → Shared → Prop) → Prop) (hZ : Z Q) (hE : PassesOwn M A env E) (h : ∀ Q' E', Z Q' → PassesOwn M A env E' → wpN M A (execs body env) Q' E' s) : wpN M A (execs body env) Q E s := h Q E hZ hE
theorem wpAny_body {body : List Stmt} {Q : Flow → Shared → Prop} (Z : (Flow → Shared → Prop) → Prop) (hZ : Z Q) (hE : PassesOwn M A env E) (h : ∀ Q' E', Z Q' → PassesOwn M A env E' → wpAny M A (execs body env) Q' E' s) : wpAny M A (execs body env) Q E s := h Q E hZ hE
theorem hold_cons {st : Stmt} {rest : List Stmt} {Q : Flow → Shared → Prop}
    (h : wpAny M A (exec st env) (fun f s' => Hold (match f with | .next => wpAny M A (execs rest env) Q E s' | f => Q f s')) E s) : wpAny M A (execs (st :: rest) env) Q E s :=
  wpAny_execs_cons (wpAny_mono h (fun f s' h' => by cases f <;> exact h'.out) fun _ _ x => x)
theorem holdN_cons {st : Stmt} {rest : List Stmt} {Q : Flow → Shared → Prop}
    (h : wpAny M A (exec st env) (fun f s' => Hold (match f with | .next => wpN M A (execs rest env) Q E s' | f => Q f s')) E s) : wpN M A (execs (st :: rest) env) Q E s :=
  wpN_execs_consA (wpAny_mono h (fun f s' h' => by cases f <;> exact h'.out) fun _ _ x => x)
end
section
variable {prog : Program} {w : World} {A : Around} {E : Value → Shared → Prop} {s : Shared} {env : Env} {h₀ : Heap} {x : Str} {body : List Stmt} {Q : Flow → Shared → Prop}
/-- what stands between two turns: the letters c, their names in the frame, the ledger -/
abbrev Mid {σ : Type} (Led : σ → List (Addr × Obj)) (ps : σ → List (Str × Value)) (x : Str) (stored : List Str) (m₀ : Str → Option Value) (P : σ → Prop) : (Str → Option Value) → List (Addr × Obj) → Prop :=
  KstS Led ps (fun _ => True) x stored m₀ (fun _ c => P c) []
/-- the iterator's object stands: a range -/
structure RangeAt (s : Shared) (h₀ : Heap) (L : Addr) (m : Str → Option Value) (led : List (Addr × Obj)) (a st : Int) (n : Nat) (xv : Value) (s₁ : Shared) : Prop where
  out : ∃ r b t u v h' tk, xv = .ref r ∧ s₁ = { s with heap := h', toks := tk } ∧ IsRange h' r a b st t u v ∧ Builtin.Range.small a b st = true ∧ Builtin.Range.rangeSize a b st = (n : Int) ∧ Fr h₀ L h' m ∧ News h₀ L h' led
theorem loop_rng {σ : Type} {r : Addr} {a st b : Int} {t₀ u₀ v₀ : Tok} {n : Nat} {m₀ : Str → Option Value} (Led : σ → List (Addr × Obj)) (ps : σ → List (Str × Value)) (stored : List Str) (P : Nat → σ → Prop) (c₀ : σ)
    (hh : A.handled = none) (hr : IsRange s.heap r a b st t₀ u₀ v₀) (hsmall : Builtin.Range.small a b st = true) (hn : Builtin.Range.rangeSize a b st = (n : Int)) (F : Fr h₀ env.locals s.heap m₀) (N : News h₀ env.locals s.heap (Led c₀)) (hk : ∀ p ∈ ps c₀, m₀ p.1 = some p.2) (hp : P 0 c₀)
    (turn : ∀ (c : σ) (i : Nat) t (u : Str → Option Value) h tk own, i < n → OwnOff own ((Led c₀).map (·.1)) → P i c →
      Fr h₀ env.locals h (fun y => if y = x then some (.int (a + i * st) t) else kstB (fun z => if stored.contains z then u z else m₀ z) (ps c) y) → News h₀ env.locals h (Led c ++ own) →
      wpAny (model prog w) A (execs body env) (InvPostN h₀ env.locals (Mid Led ps x stored m₀ (P (i + 1))) own ((Led c₀).map (·.1)) { s with heap := h, toks := tk } Q) E { s with heap := h, toks := tk })
    (done : ∀ (c : σ) (u : Str → Option Value) h tk, P n c → Fr h₀ env.locals h (fun y => if y = x then u y else kstB (fun z => if stored.contains z then u z else m₀ z) (ps c) y) → News h₀ env.locals h (Led c) → Q .next { s with heap := h, toks := tk }) :
    wpAny (model prog w) A (pyIter (.ref r)) (fun it s₂ => LoopAtV prog w A h₀ env x body Q E it s₂) E s := by
  refine wpAny_pyIter_range hr hsmall ?_
  have W : Walks prog w A s.heap.objs.size [s.heap.objs.size] [s.heap.objs.size] n (fun i v => ∃ t, v = .int (a + i * st) t)
      (fun i h => IsRangeIter h s.heap.objs.size (a + (i : Nat) * st) ((n : Int) - (i : Nat)) st) := Walks.range hh _ a st n
  refine loop_invN (fun i m nx => Mid Led ps x stored m₀ (P i) m nx) W ?_ ?_ ?_ ?_ (by show IsRangeIter _ _ _ _ _; rw [hn]; simpa using Heap.get?_push_size _ rfl) (F.push _) (fun p hp => ⟨Heap.get?_push_of_some _ (N p hp).1, (N p hp).2⟩) ⟨c₀, rfl, trivial, hk, fun _ _ _ _ => rfl, hp⟩ ?_ ?_
  · intro hm
    exact absurd F.ns.lt ((List.mem_singleton.mp hm) ▸ Nat.lt_irrefl _)
  · intro b hb
    rw [List.mem_singleton.mp hb]
    exact next_is_new F
  · intro p hp hI
    exact absurd (Heap.lt_size (N p hp).1) ((List.mem_singleton.mp hI) ▸ Nat.lt_irrefl _)
  · intro p hp hI
    exact absurd (Heap.lt_size (N p hp).1) ((List.mem_singleton.mp hI) ▸ Nat.lt_irrefl _)
  · rintro i v m₁ nx h tk own hi ⟨t, rfl⟩ _ hoff ⟨c, rfl, _, h1, h2, hp'⟩ F₁ N₁
    exact turn c i t m₁ h tk own hi hoff hp' (kst_fr h1 h2 F₁) N₁
  · rintro m₁ nx h tk ⟨c, rfl, _, h1, h2, hp'⟩ F₁ N₁
    exact done c m₁ h tk hp' (kst_frOut h1 h2 F₁) N₁
theorem for_rng {σ : Type} {px pos : Pos} {iter : Expr} {a st : Int} {n : Nat} {m₀ : Str → Option Value} (Led : σ → List (Addr × Obj)) (ps : σ → List (Str × Value)) (stored : List Str) (P : Nat → σ → Prop) (c₀ : σ)
    (_F₀ : Fr h₀ env.locals s.heap m₀) (hh : A.handled = none) (hx : env.kindOf x = some .local) (hpl : (env.scope.kind == .class || (env.scope.kind == .module && env.locals != env.globals)) = false)
    (hit : wpAny (model prog w) A (eval iter env) (RangeAt s h₀ env.locals m₀ (Led c₀) a st n) E s)
    (hk : ∀ p ∈ ps c₀, m₀ p.1 = some p.2) (hp : P 0 c₀)
    (turn : ∀ (c : σ) (i : Nat) t (u : Str → Option Value) h tk own, i < n → OwnOff own ((Led c₀).map (·.1)) → P i c →
      Fr h₀ env.locals h (fun y => if y = x then some (.int (a + i * st) t) else kstB (fun z => if stored.contains z then u z else m₀ z) (ps c) y) → News h₀ env.locals h (Led c ++ own) →
      wpAny (model prog w) A (execs body env) (InvPostN h₀ env.locals (Mid Led ps x stored m₀ (P (i + 1))) own ((Led c₀).map (·.1)) { s with heap := h, toks := tk } Q) E { s with heap := h, toks := tk })
    (done : ∀ (c : σ) (u : Str → Option Value) h tk, P n c → Fr h₀ env.locals h (fun y => if y = x then u y else kstB (fun z => if stored.contains z then u z else m₀ z) (ps c) y) → News h₀ env.locals h (Led c) → Q .next { s with heap := h, toks := tk })
    (hE : PassesOwn (model prog w) A env E)
    (hs : ∀ x, foldedSetIterable iter env x = pure x := by intro _; rfl) :
    wpAny (model prog w) A (exec (.For (.Name x px) iter body [] pos) env) Q E s := by
  refine For_invV h₀ hx hpl (wpAny_mono hit (fun xv s₁ h₁ => ?_) fun _ _ e => e) hs hE
  obtain ⟨r, b, t, u, v, h', tk, rfl, rfl, hr, hsm, hn, F, N⟩ := h₁.out
  exact loop_rng (s := { s with heap := h', toks := tk }) Led ps stored P c₀ hh hr hsm hn F N hk hp turn done
end
theorem rangeSize_step {n wd q : Nat} (hw : 0 < wd) (hq : n = q * wd) : Builtin.Range.rangeSize 0 (n : Int) (wd : Int) = (q : Int) := by
  unfold Builtin.Range.rangeSize
  rw [if_pos (by omega)]
  by_cases h0 : q = 0
  · subst h0
    rw [hq]
    simp
  · have : 0 < q * wd := Nat.mul_pos (by omega) hw
    rw [if_pos (by omega), hq]
    have e : ((q * wd : Nat) : Int) - 0 - 1 = (wd - 1 : Int) + (q - 1 : Int) * wd := by push_cast; rw [Int.sub_mul]; omega
    rw [e, Int.add_mul_ediv_right _ _ (by omega), Int.ediv_eq_zero_of_lt (by omega) (by omega)]
    omega
theorem small_step {n wd q : Nat} (hw : 0 < wd) (hq : n = q * wd) (hn : n ≤ 1000) (hwz : wd ≤ 1000) : Builtin.Range.small 0 (n : Int) (wd : Int) = true := by
  have h1 : q ≤ q * wd := Nat.le_mul_of_pos_right q hw
  have hrs := rangeSize_step hw hq
  unfold Builtin.Range.small
  rw [hrs]
  simp only [Builtin.Range.rangeFitsLong, Bool.and_eq_true, Bool.or_eq_true, decide_eq_true_eq, beq_iff_eq]
  rw [if_pos (by omega)]
  simp only [Bool.and_eq_true, decide_eq_true_eq]
  have h2 : (0:Int) ≤ (q : Int) * wd := Int.mul_nonneg (by omega) (by omega)
  have h3 : (q : Int) * wd = n := by rw [hq]; push_cast; rfl
  omega
end Mine
end

section
open PySem PySem.W PyProof.Rows PySem.Calls
set_option maxRecDepth 100000
namespace Mine
section
variable {prog : Program} {w : World} {A : Around} {E : Value → Shared → Prop} {s : Shared} {h₀ : Heap} {L : Addr} {m : Str → Option Value} {env : Env} {elt : Expr} {x : Str} {scope : Scope} {cl : List (Str × Addr)} {S : List (Addr × Obj) → Prop} {P : Nat → Value → Prop} {Fin : List Value → List (Addr × Obj) → Prop} {news : List (Addr × Obj)}
/-- the elements one by one: each leaves the ledger as it was -/
theorem rest_each {n : Nat} (G : Nat → Value → Prop)
    (turn : ∀ i v I oI C oC D m₂ ys h tk (E' : Value → Shared → Prop), i < n → P i v → LCg.NsObj oC m₂ → m₂ x = some v → Fr h₀ L h m → News h₀ L h ((I, oI) :: (C, oC) :: (D, LCg.lst ys) :: news) → LCg.Off3 I C D news → ((@Ne Nat I C) ∧ (@Ne Nat I D) ∧ (@Ne Nat C D)) →
      wpAny (model prog w) A (eval elt (compEnvC scope cl C env)) (LCg.CompEnd h₀ L m { s with heap := h, toks := tk } I oI C oC D (LCg.lst ys) S (fun y news' => news' = news ∧ G i y)) E' { s with heap := h, toks := tk })
    (fin : ∀ ys : List Value, ys.length = n → (∀ i y, ys[i]? = some y → G i y) → Fin ys news) : LCg.CompRest prog w A h₀ L m env elt x scope cl s S P Fin n 0 [] news := by
  have key : ∀ (j i : Nat) (ys : List Value), i + j = n → ys.length = i → (∀ i y, ys[i]? = some y → G i y) → LCg.CompRest prog w A h₀ L m env elt x scope cl s S P Fin j i ys news := by
    intro j
    induction j with
    | zero =>
      intro i ys hi hl hy
      exact LCg.CompRest.zero (fin ys (by omega) hy)
    | succ j ih =>
      intro i ys hi hl hy
      refine LCg.CompRest.succ ?_
      intro v I oI C oC D m₂ h tk E' hv hC hx F N off ne
      refine wpAny_mono (turn i v I oI C oC D m₂ ys h tk E' (by omega) hv hC hx F N off ne) (fun y s₂ hq => ?_) fun _ _ e => e
      obtain ⟨h', tk', nw, e, F', N', off', hS, hn, hG⟩ := hq
      subst hn
      refine ⟨h', tk', nw, e, F', N', off', hS, ih (i + 1) _ (by omega) (by simp [hl]) fun k z hz => ?_⟩
      rcases Nat.lt_trichotomy k ys.length with hk | hk | hk
      · exact hy k z (by rwa [List.getElem?_append_left hk] at hz)
      · subst hk
        simp at hz
        subst hz
        rw [hl]; exact hG
      · rw [List.getElem?_eq_none (by simp; omega)] at hz
        cases hz
  exact key n 0 [] (by omega) rfl (fun i y h => by simp at h)
theorem lc_bytes {iter : Expr} {px pos : Pos} {Q : Value → Shared → Prop} (_F₀ : Fr h₀ L s.heap m)
    (hclos : closureFor scope env = pure cl) (hcell : ∀ y ∈ scope.names, y.2 ≠ .cell) (hkind : scope.kind = .function)
    (hnames : ∀ y ∈ scope.names, y.2 = .local → scope.names.lookup y.1 = some .local) (hx : scope.names.lookup x = some .local)
    (h : wpAny (model prog w) A (eval iter env) (fun xv s₁ => ∃ b t news, xv = .bytes b t ∧ A.handled = none ∧ Fr h₀ L s₁.heap m ∧ News h₀ L s₁.heap news ∧ b.size ≤ sizeLine ∧
      ∀ s₂ : Shared, (∃ h, s₂ = { s₁ with heap := h }) → LCg.CompRest prog w A h₀ L m env elt x scope cl s₂ (fun _ => True) (fun i v => ∃ c u, b[i]? = some c ∧ v = .int (c.toNat : Int) u) (LCg.FinE h₀ L m s₂ Q) b.size 0 [] news) E s)
    (hs : ∀ x, foldedSetIterable iter env x = pure x := by intro _; rfl) :
    wpAny (model prog w) A (eval (.ListComp elt [⟨.Name x px, iter, [], 0⟩] scope pos) env) Q E s := by
  rw [eval_ListComp]
  refine wpAny_comprehension_free (use := none) rfl hs hclos hkind hnames (wpAny_mono h (fun xv s₁ h₁ => ?_) fun _ _ e => e)
  obtain ⟨b, t, news, rfl, hh, F, N, hsz, R⟩ := h₁
  refine KBw.pyIter_bytes ?_
  refine LCg.block_U (KBw.walks hh s₁.heap.objs.size b t) hsz (fun i h st => by obtain ⟨o, e, _⟩ := st; exact ⟨o, e⟩) (fun i h h' o nw st e e' _ _ _ => by obtain ⟨o', q, r⟩ := st; rw [e] at q; cases q; exact ⟨o, e', r⟩) hcell hkind hx ⟨_, Heap.get?_push_size _ rfl, rfl, rfl⟩ (fun b hb => ?_)
      (F.keeps fun _ _ e => Heap.get?_push_of_some _ e) (N.grown fun _ _ e => Heap.get?_push_of_some _ e) (Nat.ne_of_lt F.ns.lt) (next_is_new F) (fun p hp => Nat.ne_of_lt (Heap.lt_size (N p hp).1)) trivial (R _ ⟨_, rfl⟩) ?_
  · rw [List.mem_singleton.mp hb]
    show s₁.heap.objs.size < (s₁.heap.push _).objs.size
    rw [Heap.size_push]; exact Nat.lt_succ_self _
  · intro D C h tk m' ys news' F' N' o1 hn hC₀ hD₀ hCL hDL hCD offC fin
    refine ⟨m', hn, fun h'' hs'' => fin D h'' tk (F'.change hs'' hCL hC₀) (fun p hp => ?_) o1⟩
    refine ⟨hs''.extBut _ _ ?_ (N' p hp).1, (N' p hp).2⟩
    rcases List.mem_cons.mp hp with rfl | hp
    · exact Ne.symm hCD
    · exact offC p hp
end
theorem ints_of {ns : List Int} : ∀ {ys : List Value}, ys.length = ns.length → (∀ (i : Nat) (y : Value), ys[i]? = some y → ∃ t k, ns[i]? = some k ∧ y = .int k t) → IntsAre ys ns := by
  induction ns with
  | nil =>
    intro ys hl _
    cases ys with
    | nil => exact .nil
    | cons _ _ => cases hl
  | cons k r ih =>
    intro ys hl h
    cases ys with
    | nil => cases hl
    | cons y q =>
      obtain ⟨t, k', hk, rfl⟩ := h 0 y (by simp)
      simp at hk
      subst hk
      exact .cons _ t (ih (by simpa using hl) fun i z hz => h (i + 1) z (by simpa using hz))
theorem bytes_eq_ints (b c : Array UInt8) : (b.toList == c.toList) = decide (KBw.bInts b = KBw.bInts c) := by
  have inj : ∀ l k : List UInt8, (l.map fun x => (x.toNat : Int)) = (k.map fun x => (x.toNat : Int)) → l = k := by
    intro l
    induction l with
    | nil => intro k h; cases k with | nil => rfl | cons _ _ => cases h
    | cons x r ih =>
      intro k h
      cases k with
      | nil => cases h
      | cons y q =>
        simp only [List.map_cons, List.cons.injEq] at h
        rw [ih q h.2]
        congr 1
        exact UInt8.toNat_inj.mp (by omega)
  rw [Bool.eq_iff_iff, beq_iff_eq, decide_eq_true_eq]
  exact ⟨fun e => by unfold KBw.bInts; rw [e], fun e => inj _ _ e⟩
theorem ints_snoc {k : Int} {t : Tok} : ∀ {ys : List Value} {ns : List Int}, IntsAre ys ns → IntsAre (ys ++ [.int k t]) (ns ++ [k])
  | _, _, .nil => .cons k t .nil
  | _, _, .cons n u r => .cons n u (ints_snoc r)
end Mine
end

section
open PySem PySem.W PyProof.Rows PySem.Calls
set_option maxRecDepth 100000
namespace Mine
section
variable {prog : Program} {w : World} {A : Around} {E : Value → Shared → Prop} {s : Shared} {env : Env} {h₀ : Heap} {x : Str} {body : List Stmt} {R : Result → Shared → Prop}
theorem wpAny_never {α : Type} {M : Model} {t : Sem α} {Q : α → Shared → Prop} (h : wpAny M A t Q (fun _ _ => False) s) : wpAny M A t Q E s := wpAny_mono h (fun _ _ x => x) fun _ _ x => x.elim
theorem wpN_never {α : Type} {M : Model} {t : Sem α} {Q : α → Shared → Prop} (h : wpN M A t Q (fun _ _ => False) s) : wpN M A t Q E s := wpN_mono h (fun _ _ x => x) fun _ _ x => x.elim
theorem codeN_forLoop {px : Pos} {it : Value} (I : Nat → Shared → Prop)
    (turn : ∀ n s, I n s → wpAny (model prog w) A (pyNext it) (fun r s₁ => match r with
      | none => R (.ok .next) s₁
      | some v => wpAny (model prog w) A (assign (.Name x px) env v) (fun _ s₂ => wpN (model prog w) A (execs body env) (fun f s₃ => match f with
          | .next | .cont => ∃ m, m < n ∧ I m s₃
          | .brk => R (.ok .next) s₃
          | .ret v => R (.ok (.ret v)) s₃) (fun _ _ => False) s₂) (fun _ _ => False) s₁) (fun _ _ => False) s)
    (n : Nat) (h : I n s) : codeN (model prog w) A (.forLoop (.Name x px) it body [] env) R s := by
  refine codeN_loop rfl rfl I (fun n s hI => ?_) n h
  show wpN _ A ((forTurn (.Name x px) it body [] env).onRaise (fun x => do noteFrame x env; theTreesLotGoes x)) _ _ s
  refine wpN_onRaise (wpN_never ?_)
  unfold forTurn
  refine wpN_bindA (wpAny_standAt (wpN_bindA (wpAny_onRaise (wpAny_mono (turn n s hI) (fun r s₁ h₁ => ?_) fun _ _ x => x.elim))))
  cases r with
  | none =>
    refine wpN_pure (.inr ⟨rfl, codeN_of (codeAny_of_tree ?_)⟩)
    show wpAny _ A (do return Fin.done (← (execs [] env).onRaise (fun x => do noteFrame x env; theTreesLotGoes x))) _ _ _
    exact wpAny_bind (wpAny_onRaise (wpAny_execs_nil (wpAny_pure h₁)))
  | some v =>
    show wpN _ A (letOwnedTupleGo (.Name x px) it v >>= _) _ _ _
    refine wpN_bindA (wpAny_of_eq (a := ()) rfl (wpN_bindA (wpAny_mono h₁ (fun _ s₂ h₂ => wpN_bind (wpN_mono h₂ (fun f s₃ h₃ => ?_) fun _ _ x => x)) fun _ _ x => x)))
    cases f with
    | next => exact wpN_pure (.inl ⟨rfl, h₃⟩)
    | cont => exact wpN_pure (.inl ⟨rfl, h₃⟩)
    | brk => exact wpN_pure h₃
    | ret v => exact wpN_pure h₃
theorem wpN_For {px pos : Pos} {iter : Expr} {Q : Flow → Shared → Prop}
    (h : wpAny (model prog w) A (eval iter env) (fun x' s₁ => wpAny (model prog w) A (pyIter x') (fun it s₂ =>
      codeN (model prog w) A (.forLoop (.Name x px) it body [] env) (fun r s' => match r with | .ok f => Q f s' | .error _ => False) s₂) (fun _ _ => False) s₁) (fun _ _ => False) s)
    (hs : ∀ x, foldedSetIterable iter env x = pure x := by intro _; rfl) :
    wpN (model prog w) A (exec (.For (.Name x px) iter body [] pos) env) Q E s := by
  refine wpN_never ?_
  rw [exec_For]
  refine wpN_bindA (wpAny_standAt (wpN_bindA (wpAny_mono h (fun x s₁ h₁ => wpN_bindA (wpAny_of_eq (hs x) (wpN_bindA (wpAny_standAt (wpN_bindA (wpAny_holding
    (wpAny_mono h₁ (fun it s₂ h₂ => ?_) fun _ _ h' => h'))))))) fun _ _ h' => h')))
  unfold runOwn
  exact wpN_onRaise (wpN_run (codeN_mono h₂ fun r s' hr => by cases r with | ok f => exact hr | error e => exact hr.elim))
/-- a loop over a range, its turns in the logic of the fit stack -/
theorem for_rngN {σ : Type} {px pos : Pos} {iter : Expr} {Q : Flow → Shared → Prop} {a st : Int} {n : Nat} {m₀ : Str → Option Value} (Led : σ → List (Addr × Obj)) (ps : σ → List (Str × Value)) (stored : List Str) (P : Nat → σ → Prop) (c₀ : σ)
    (_F₀ : Fr h₀ env.locals s.heap m₀) (hh : A.handled = none) (hx : env.kindOf x = some .local) (hpl : (env.scope.kind == .class || (env.scope.kind == .module && env.locals != env.globals)) = false)
    (hit : wpAny (model prog w) A (eval iter env) (RangeAt s h₀ env.locals m₀ (Led c₀) a st n) (fun _ _ => False) s)
    (hk : ∀ p ∈ ps c₀, m₀ p.1 = some p.2) (hp : P 0 c₀)
    (turn : ∀ (c : σ) (i : Nat) t (u : Str → Option Value) h tk own, i < n → OwnOff own ((Led c₀).map (·.1)) → P i c →
      Fr h₀ env.locals h (fun y => if y = x then some (.int (a + i * st) t) else kstB (fun z => if stored.contains z then u z else m₀ z) (ps c) y) → News h₀ env.locals h (Led c ++ own) →
      wpN (model prog w) A (execs body env) (InvPostN h₀ env.locals (Mid Led ps x stored m₀ (P (i + 1))) own ((Led c₀).map (·.1)) { s with heap := h, toks := tk } Q) (fun _ _ => False) { s with heap := h, toks := tk })
    (done : ∀ (c : σ) (u : Str → Option Value) h tk, P n c → Fr h₀ env.locals h (fun y => if y = x then u y else kstB (fun z => if stored.contains z then u z else m₀ z) (ps c) y) → News h₀ env.locals h (Led c) → Q .next { s with heap := h, toks := tk })
    (hs : ∀ x, foldedSetIterable iter env x = pure x := by intro _; rfl) :
    wpN (model prog w) A (exec (.For (.Name x px) iter body [] pos) env) Q E s := by
  refine wpN_For (wpAny_mono hit (fun xv s₁ h₁ => ?_) fun _ _ e => e) hs
  obtain ⟨r, b, t, u, v, h', tk, rfl, rfl, hr, hsm, hn, F, N⟩ := h₁.out
  refine wpAny_pyIter_range hr hsm ?_
  dsimp only
  generalize hI : h'.objs.size = I
  generalize hH : h'.push { cls := .type "range_iterator", data := .fields #[rawInt a, rawInt (Builtin.Range.rangeSize a b st), rawInt st] } = H
  have up : ∀ b o, h'.get? b = some o → H.get? b = some o := fun b o e => hH ▸ Heap.get?_push_of_some _ e
  have hII : IsRangeIter H I a (n : Int) st := by subst hI; rw [← hH, hn]; exact Heap.get?_push_size _ rfl
  have W : Walks prog w A I [I] [I] n (fun i v => ∃ t, v = .int (a + i * st) t) (fun i h => IsRangeIter h I (a + (i : Nat) * st) ((n : Int) - (i : Nat)) st) := Walks.range hh I a st n
  have hIL : env.locals ≠ I := by rw [← hI]; exact Nat.ne_of_lt F.ns.lt
  have hI₀ : h₀.get? I = none := by rw [← hI]; exact next_is_new F
  have hIn : ∀ p ∈ Led c₀, p.1 ≠ I := fun p hp => by rw [← hI]; exact Nat.ne_of_lt (Heap.lt_size (N p hp).1)
  refine codeN_forLoop (fun k s' => ∃ h₁ tk₁ m' nx i, s' = { s with heap := h₁, toks := tk₁ } ∧ IsRangeIter h₁ I (a + (i : Nat) * st) ((n : Int) - (i : Nat)) st ∧ Fr h₀ env.locals h₁ m' ∧ News h₀ env.locals h₁ nx ∧ nx.map (·.1) = (Led c₀).map (·.1) ∧ Mid Led ps x stored m₀ (P i) m' nx ∧ i ≤ n ∧ k = n + 1 - i) ?_ (n + 1)
    ⟨H, tk, m₀, Led c₀, 0, rfl, by simpa using hII, F.keeps up, N.grown up, rfl, ⟨c₀, rfl, trivial, hk, fun _ _ _ _ => rfl, hp⟩, Nat.zero_le _, rfl⟩
  rintro k s' ⟨h₁, tk₁, m', nx, i, rfl, hst, F₁, N₁, ha, hJ, hi, rfl⟩
  have hnI : ∀ p ∈ nx, p.1 ≠ I := fun p hp => by
    have : p.1 ∈ nx.map (·.1) := List.mem_map_of_mem hp
    rw [ha] at this
    obtain ⟨q, hq, e⟩ := List.mem_map.mp this
    rw [← e]; exact hIn q hq
  by_cases hlt : i < n
  · refine W.item i _ _ _ hlt hst fun v h₂ tk₂ hP hst₂ hk₂ => ?_
    have F₂ := LCg.fr_but F₁ hk₂ hIL hI₀
    have N₂ := LCg.news_but N₁ hk₂ hnI
    obtain ⟨t, rfl⟩ := hP
    refine wpAny_assign_Name (wpAny_storeName_local hx F₂.ns (fun h₃ hn₃ hs₃ => ?_) hpl)
    have F₃ := F₂.set hn₃ hs₃
    have N₃ := N₂.set hs₃
    have hst₃ : IsRangeIter h₃ I (a + (i + 1 : Nat) * st) ((n : Int) - (i + 1 : Nat)) st := W.frame (i + 1) h₂ h₃ hst₂ fun b hb o e => (hs₃.2 b (by rw [List.mem_singleton.mp hb]; exact Ne.symm hIL)).trans e
    obtain ⟨oI, heI⟩ : ∃ oI, h₃.get? I = some oI := ⟨_, hst₃⟩
    obtain ⟨c, rfl, _, h1, h2, hp'⟩ := hJ
    refine wpN_mono (turn c i t m' h₃ _ [(I, oI)] hlt (fun p hp b hb => ?_) hp' (kst_fr h1 h2 F₃) fun p hp => ?_) (fun f s₄ h₄ => ?_) fun _ _ x => x
    · rw [List.mem_singleton.mp hp]
      obtain ⟨q, hq, rfl⟩ := List.mem_map.mp hb
      exact Ne.symm (hIn q hq)
    · rcases List.mem_append.mp hp with hp | hp
      · exact N₃ p hp
      · rw [List.mem_singleton.mp hp]; exact ⟨heI, Ne.symm hIL, hI₀⟩
    · have fin : InvEndN h₀ env.locals (Mid Led ps x stored m₀ (P (i + 1))) [(I, oI)] ((Led c₀).map (·.1)) { s with heap := h₃, toks := tk₂ + 1 } s₄ → ∃ m, m < n + 1 - i ∧ ∃ h₁ tk₁ m' nx i, s₄ = { s with heap := h₁, toks := tk₁ } ∧ IsRangeIter h₁ I (a + (i : Nat) * st) ((n : Int) - (i : Nat)) st ∧ Fr h₀ env.locals h₁ m' ∧ News h₀ env.locals h₁ nx ∧ nx.map (·.1) = (Led c₀).map (·.1) ∧ Mid Led ps x stored m₀ (P i) m' nx ∧ i ≤ n ∧ m = n + 1 - i := by
        rintro ⟨h₅, tk₅, m₅, news₅, nx₅, rfl, F₅, N₅, hn₅, ho₅, ha₅, hJ₅⟩
        refine ⟨n + 1 - (i + 1), by omega, h₅, tk₅, m₅, nx₅, i + 1, rfl, ?_, F₅, fun p hp => N₅ p (hn₅ p hp), ha₅, hJ₅, hlt, rfl⟩
        have z := (N₅ (I, oI) (ho₅ _ (List.mem_singleton.mpr rfl))).1
        show h₅.get? I = some _
        rw [z, ← heI]
        exact hst₃
      cases f with
      | ret v => exact h₄
      | brk => exact h₄
      | next => exact fin h₄
      | cont => exact fin h₄
  · obtain rfl : i = n := Nat.le_antisymm hi (Nat.not_lt.mp hlt)
    refine W.done _ _ _ hst fun h₂ tk₂ hk₂ => ?_
    obtain ⟨c, rfl, _, h1, h2, hp'⟩ := hJ
    exact done c m' h₂ tk₂ hp' (kst_frOut h1 h2 (LCg.fr_but F₁ hk₂ hIL hI₀)) (LCg.news_but N₁ hk₂ hnI)
end
end Mine
end

section
open PySem PySem.W PyProof.Rows PySem.Calls
set_option maxRecDepth 100000
namespace Mine
section
variable {M : Model} {A : Around} {E : Value → Shared → Prop} {s : Shared} {env : Env}
theorem wpN_isTrue_Compare1 {l r : Expr} {op : CmpOp} {pos : Pos} {whole : Sem Value} {Q : Bool → Shared → Prop}
    (h : wpN M A (eval l env) (fun a s₁ => wpN M A (eval r env) (fun b s₂ => wpAny M A (compareOp op a b) (fun c s₃ => wpAny M A (truthy c) Q E s₃) E s₂) E s₁) E s)
    (hm : behindInMarks op r = false := by rfl) : wpN M A (isTrue (.Compare l [op] [r] pos) env whole) Q E s := by
  rw [isTrue_Compare1 env l op r pos whole]
  refine wpN_bind (wpN_mono h (fun a s₁ h₁ => ?_) fun _ _ x => x)
  rw [markedBehindIn_of_false hm]
  refine wpN_bind (wpN_holding (wpN_mono h₁ (fun b s₂ h₂ => ?_) fun _ _ x => x))
  exact wpN_of (wpAny_bind (wpAny_standAt (wpAny_bind (wpAny_operateT (wpAny_mono h₂ (fun c s₃ h₃ => wpAny_holding h₃) fun _ _ x => x)))))
theorem wpN_Compare1 {l r : Expr} {op : CmpOp} {pos : Pos} {Q : Value → Shared → Prop}
    (h : wpN M A (eval l env) (fun a s₁ => wpN M A (eval r env) (fun b s₂ => wpAny M A (compareOp op a b) Q E s₂) E s₁) E s)
    (hm : behindInMarks op r = false := by rfl) : wpN M A (eval (.Compare l [op] [r] pos) env) Q E s := by
  rw [eval_Compare1 env l op r pos]
  refine wpN_bind (wpN_mono h (fun a s₁ h₁ => ?_) fun _ _ x => x)
  rw [markedBehindIn_of_false hm]
  refine wpN_bind (wpN_holding (wpN_mono h₁ (fun b s₂ h₂ => ?_) fun _ _ x => x))
  exact wpN_of (wpAny_bind (wpAny_standAt (wpAny_operateT h₂)))
theorem wpN_isTrue_Or2 {e1 e2 : Expr} {pos : Pos} {whole : Sem Value} {Q : Bool → Shared → Prop}
    (h : wpAny M A (isTrue e1 env (eval e1 env)) (fun b s₁ => if b = true then Q true s₁ else wpN M A (isTrue e2 env (eval e2 env)) Q E s₁) E s) :
    wpN M A (isTrue (.BoolOp .Or [e1, e2] pos) env whole) Q E s := by
  show wpN M A (allTrue .Or [e1, e2] env) Q E s
  unfold allTrue
  refine wpN_bindA (wpAny_mono h (fun b s₁ h₁ => ?_) fun _ _ x => x)
  cases b with
  | true => exact wpN_pure h₁
  | false =>
    show wpN M A (allTrue .Or [e2] env) Q E s₁
    unfold allTrue
    refine wpN_bind (wpN_mono h₁ (fun b s₂ h₂ => ?_) fun _ _ x => x)
    cases b with
    | true => exact wpN_pure h₂
    | false => exact wpN_pure h₂
theorem wpN_BoolOp_And {e1 : Expr} {rest : List Expr} {pos : Pos} {Q : Value → Shared → Prop} (hr : rest ≠ [])
    (h : wpN M A (eval e1 env) (fun v s₁ => wpAny M A (truthy v) (fun b s₂ => if b = true then wpN M A (eval (.BoolOp .And rest pos) env) Q E s₂ else Q v s₂) E s₁) E s) :
    wpN M A (eval (.BoolOp .And (e1 :: rest) pos) env) Q E s := by
  show wpN M A (boolOp pos .And (eval e1 env :: evalEach rest env)) Q E s
  cases rest with
  | nil => exact absurd rfl hr
  | cons e2 r2 =>
    show wpN M A (boolOp pos .And (eval e1 env :: eval e2 env :: evalEach r2 env)) Q E s
    unfold boolOp
    refine wpN_bind (wpN_mono h (fun v s₁ h₁ => wpN_bindA (wpAny_standAt (wpN_bindA (wpAny_holding (wpAny_mono h₁ (fun b s₂ h₂ => ?_) fun _ _ x => x))))) fun _ _ x => x)
    cases b with
    | true => exact h₂
    | false => exact wpN_pure h₂
theorem wpN_BoolOp_one {e1 : Expr} {pos : Pos} {Q : Value → Shared → Prop} (h : wpN M A (eval e1 env) Q E s) : wpN M A (eval (.BoolOp .And [e1] pos) env) Q E s := by
  show wpN M A (boolOp pos .And [eval e1 env]) Q E s
  unfold boolOp
  exact h
theorem wpN_IfExp {test a b : Expr} {pos : Pos} {Q : Value → Shared → Prop}
    (h : wpAny M A (isTrue test env (eval test env)) (fun c s₁ => if c = true then wpN M A (eval a env) Q E s₁ else wpN M A (eval b env) Q E s₁) E s) : wpN M A (eval (.IfExp test a b pos) env) Q E s := by
  show wpN M A (isTrue test env (eval test env) >>= fun c => if c = true then eval a env else eval b env) Q E s
  refine wpN_bindA (wpAny_mono h (fun c s₁ h₁ => ?_) fun _ _ x => x)
  cases c <;> exact h₁
end
end Mine
end

section
open PySem PySem.W PyProof.Rows PySem.Calls
set_option maxRecDepth 100000
namespace Mine
section
variable {M : Model} {A : Around} {E : Value → Shared → Prop} {s : Shared} {env : Env} {pos : Pos} {Q : Value → Shared → Prop}
/-- a call by a name, of at least one argument, the arguments in the plain logic -/
theorem wpN_CallA {P : Heap → Prop} {func e : Expr} {args : List Expr} (fv : Value)
    (hf : wpAny M A (eval func env) (fun v s₁ => v = fv ∧ wpAny M A (spliced (backTo pos (starEach (e :: args) env))) (fun vs s₂ => Hold (P s₂.heap ∧ wpN M A (call fv vs) Q E s₂)) E s₁) E s)
    (hk : ∀ h, P h → ∃ k, (k = Keeper.frame ∨ k = Keeper.machine ∨ k = Keeper.boundFrame) ∧ Looks M h (keeperOf fv) k)
    (hplain : (backTo pos (starEach args env)).any (·.1) = false := by rfl)
    (he2 : backTo pos (starEach (e :: args) env) = (false, eval e env) :: backTo pos (starEach args env) := by rfl)
    (he : eval (.Call func (e :: args) [] pos) env = (eval func env >>= fun v => callWith pos v [] ((false, eval e env) :: backTo pos (starEach args env)) []) := by rfl) :
    wpN M A (eval (.Call func (e :: args) [] pos) env) Q E s := by
  refine wpN_Call fv (wpAny_mono hf (fun v s₁ h₁ => ⟨h₁.1, ?_⟩) fun _ _ x => x) hk hplain he
  rw [he2] at h₁
  exact wpN_of (wpAny_mono h₁.2 (fun _ _ x => x.out) fun _ _ x => x)
end
end Mine
end

section
open PySem PySem.W PyProof.Rows
set_option maxRecDepth 100000
namespace Mine
open Sem (wp)
namespace F
theorem ba_mro : mroOf (.type "bytearray") = pure [.type "bytearray", .type "object"] := by rw [mroOf_type]; kernel_rfl
theorem ba_lookup_new : typeLookup (.type "bytearray") "__new__" = pure (some (.builtin "bytearray.__new__")) := by rw [typeLookup_type, builtinLookup_eq_fast]; kernel_rfl
theorem ba_slot_init : Slot "bytearray" "__init__" "bytearray.__init__" :=
  .of (owner := "bytearray") (n := "__init__") (by rw [typeLookup_type, builtinLookup_eq_fast]; kernel_rfl) (by decide +kernel) (by decide +kernel) (by decide +kernel)
    (by first | exact .inl (by decide +kernel) | exact .inr (by decide +kernel)) (by rw [isSubtype_type]; kernel_rfl)
theorem ba_called : TypeCalled "bytearray" "bytearray.__new__" "bytearray.__init__" :=
  ⟨by decide +kernel, by decide +kernel, ⟨_, _, ba_mro⟩, madeBy_type ba_mro ba_lookup_new (by decide +kernel), by decide +kernel, by rw [isSubtype_type]; kernel_rfl, ba_slot_init⟩
theorem ba_typeCall (a : Value) : checkTypeCall "bytearray" ⟨[a], []⟩ = pure () := by kernel_rfl
theorem ba_newCall (a : Value) : checkBuiltinCall "bytearray.__new__" ⟨[.type "bytearray", a], []⟩ = pure () := by kernel_rfl
theorem ba_plain_new : plainId "bytearray.__new__" = true := by decide +kernel
theorem ba_entry_new : entryFor table "bytearray.__new__" = some Builtin.«list.__new__» := entryFor_alias (id' := "list.__new__") (by kernel_rfl) rfl (by decide +kernel) (by kernel_rfl)
theorem ba_entry_init : entryFor table "bytearray.__init__" = some Builtin.«bytearray.__init__» := by first | exact entryFor_of_fast (by kernel_rfl) | exact entryFor_of_tree (by kernel_rfl)
theorem ba_args_init (a b : Value) : argsOk "bytearray.__init__" ⟨[a, b], []⟩ := by unfold argsOk; kernel_rfl
theorem ba_sub : isSubtype (.type "bytearray") (.type "bytearray") = pure true := by rw [isSubtype_type]; kernel_rfl
theorem ba_bind (v : Value) : Builtin.Bytes.bindOptional "bytearray.__init__" "bytearray" ["source", "encoding", "errors"] [v] [] = pure [some v, none, none] := by kernel_rfl
theorem ba_look_release : typeLookup (.type "bytearray") "__release_buffer__" = pure (some (.builtin "bytearray.__release_buffer__")) := by rw [typeLookup_type, builtinLookup_eq_fast]; kernel_rfl
theorem ba_look_buffer : typeLookup (.type "bytearray") "__buffer__" = pure (some (.builtin "bytearray.__buffer__")) := by rw [typeLookup_type, builtinLookup_eq_fast]; kernel_rfl
set_option maxRecDepth 1000000 in
set_option maxHeartbeats 4000000 in
theorem ba_owner_new : ("bytearray.__new__".splitOn ".__new__").headD "" = "bytearray" := by simp +decide [String.splitOn, String.splitOnAux]
theorem int_index : typeLookup (.type "int") "__index__" = pure (some (.builtin "int.__index__")) := by rw [typeLookup_type, builtinLookup_eq_fast]; kernel_rfl
theorem ba_slot_set : Slot "bytearray" "__setitem__" "bytearray.__setitem__" :=
  .of (owner := "bytearray") (n := "__setitem__") (by rw [typeLookup_type, builtinLookup_eq_fast]; kernel_rfl) (by decide +kernel) (by decide +kernel) (by decide +kernel)
    (by first | exact .inl (by decide +kernel) | exact .inr (by decide +kernel)) (by rw [isSubtype_type]; kernel_rfl)
theorem ba_entry_set : entryFor table "bytearray.__setitem__" = some Builtin.«bytearray.__setitem__» := by first | exact entryFor_of_fast (by kernel_rfl) | exact entryFor_of_tree (by kernel_rfl)
theorem ba_args_set (a b c : Value) : argsOk "bytearray.__setitem__" ⟨[a, b, c], []⟩ := by unfold argsOk; kernel_rfl
theorem ba_no_bytes : typeLookup (.type "bytearray") "__bytes__" = pure none := by rw [typeLookup_type, builtinLookup_eq_fast]; kernel_rfl
theorem ba_no_index : typeLookup (.type "bytearray") "__index__" = pure none := by rw [typeLookup_type, builtinLookup_eq_fast]; kernel_rfl
end F
end Mine
end

section
open PySem PySem.W PyProof.Rows
set_option maxRecDepth 100000
namespace Mine
open Sem (wp)
abbrev baObj (b : Array UInt8) : Obj := { cls := .type "bytearray", data := .bytearray b }
section
variable {prog : Program} {w : World} {A : Around} {E : Value → Shared → Prop} {s : Shared}
theorem ba_new (a : Value) {Q₁ : Value → Shared → Prop}
    (h : Q₁ (.ref s.heap.objs.size) { s with heap := s.heap.push (baObj #[]) }) :
    codeAny (model prog w) A (.call (.builtin "bytearray.__new__") ⟨[.type "bytearray", a], []⟩) (wants Q₁ E) s := by
  refine codeAny_of_tree ?_
  show wpAny _ A.in1 (do checkBuiltinCall "bytearray.__new__" ⟨[.type "bytearray", a], []⟩; again (.builtin "bytearray.__new__" ⟨[.type "bytearray", a], []⟩)) _ _ s
  refine wpAny_bind (wpAny_of_eq (F.ba_newCall a) (wpAny_pure ⟨plainId_quiet F.ba_plain_new _, codeAny_builtin_stack F.ba_entry_new rfl fun p st => ?_⟩))
  rw [Around.under_plainId F.ba_plain_new _]
  have hsub := F.ba_sub
  have hown := F.ba_owner_new
  obtain ⟨hp, g, d, tk, os⟩ := s
  simp only [hown]
  wp_walk
  exact h
theorem ba_own {a : Addr} {b : Array UInt8} {id : String} {nm : String} {Q : Bool → Shared → Prop} (ho : s.heap.get? a = some (baObj b)) (hl : typeLookup (.type "bytearray") (nm : Str) = pure (some (.builtin id)))
    (he : id.endsWith ("." ++ nm) = true) (hd : id.dropRight (nm.length + 1) = "bytearray") (h : Q true s) : wpAny (model prog w) A (Builtin.Bytes.slotIsOwn (.ref a) nm) Q E s := by
  have hT : s.TypeIs (.ref a) "bytearray" := ⟨_, ho, rfl⟩
  unfold Builtin.Bytes.slotIsOwn
  refine wpAny_bind (wpAny_specialOf hT hl ?_)
  dsimp only
  rw [he, hd]
  exact wpAny_isInstance hT F.ba_sub h
theorem ba_ownRelease {a : Addr} {b : Array UInt8} {Q : Bool → Shared → Prop} (ho : s.heap.get? a = some (baObj b)) (h : Q false s) : wpAny (model prog w) A (Builtin.Bytes.ownRelease (.ref a)) Q E s := by
  unfold Builtin.Bytes.ownRelease
  exact wpAny_bind (ba_own ho F.ba_look_release (by decide +kernel) (by decide +kernel) (wpAny_pure h))
theorem ba_payload {a : Addr} {b : Array UInt8} {Q : Array UInt8 → Shared → Prop} (ho : s.heap.get? a = some (baObj b)) (h : Q b s) : wpAny (model prog w) A (Builtin.Bytes.payload (.ref a)) Q E s := by
  unfold Builtin.Bytes.payload Builtin.Bytes.payload?
  exact wpAny_bind (wpAny_bind (wpAny_load ho (wpAny_pure (wpAny_pure h))))
theorem ba_write {a : Addr} {b : Array UInt8} {f : Array UInt8 → Array UInt8} {Q : Unit → Shared → Prop} (ho : s.heap.get? a = some (baObj b)) (hz : (f b).size ≤ sizeLine)
    (h : Q () { s with heap := s.heap.update a (Obj.mapBytearray f) }) : wpAny (model prog w) A (Builtin.Bytes.write (.ref a) f) Q E s := by
  show wpAny _ _ (updateBytearray a f) _ _ _
  unfold updateBytearray
  refine wpAny_bind (wpAny_load ho ?_)
  show wpAny _ _ (update a (Obj.mapBytearray f) >>= fun _ => lookBehind a) _ _ _
  refine wpAny_bind (wpAny_update ho ?_)
  have ho' : (s.heap.update a (Obj.mapBytearray f)).get? a = some (baObj (f b)) := Heap.get?_update_self (Obj.mapBytearray f) ho rfl
  refine wpAny_lookBehind ho' ?_ h
  show (if (f b).size > sizeLine then some "bytearray:memory" else none) = none
  rw [if_neg (by omega)]
theorem ba_updated {a : Addr} {b : Array UInt8} {f : Array UInt8 → Array UInt8} {h : Heap} (ho : h.get? a = some (baObj b)) : (h.update a (Obj.mapBytearray f)).get? a = some (baObj (f b)) :=
  Heap.get?_update_self (Obj.mapBytearray f) ho rfl
theorem wpN_of_false {α : Type} {M : Model} {c : Bool} {a b : Sem α} {Q : α → Shared → Prop} (hc : c = false) (h : wpN M A b Q E s) : wpN M A (if c = true then a else b) Q E s := by
  subst hc
  exact h
theorem wpN_of_true {α : Type} {M : Model} {c : Bool} {a b : Sem α} {Q : α → Shared → Prop} (hc : c = true) (h : wpN M A a Q E s) : wpN M A (if c = true then a else b) Q E s := by
  subst hc
  exact h
theorem ba_init {a : Addr} {n : Int} {t : Tok} {Q : PySem.Fin → Shared → Prop} (h0 : 0 ≤ n) (h1 : n ≤ 1000000) (ho : s.heap.get? a = some (baObj #[]))
    (h : ∀ h' tk, h'.get? a = some (baObj (Array.replicate n.toNat 0)) → Heap.SameBut a s.heap h' → Q (.done (.ret .none)) { s with heap := h', toks := tk }) :
    wpN (model prog w) A (Builtin.«bytearray.__init__» ⟨[.ref a, .int n t], []⟩) Q E s := by
  unfold Builtin.«bytearray.__init__»
  refine wpN_bindA (ba_ownRelease ho ?_)
  refine wpN_of_false rfl ?_
  refine wpN_bindA (wpAny_of_eq (F.ba_bind _) ?_)
  refine wpN_bindA (wpAny_of_eq (a := ()) rfl ?_)
  refine wpN_bindA (wpAny_of_eq (a := ()) rfl ?_)
  refine wpN_bind ?_
  unfold orM
  refine wpN_bind (wpN_exported ?_)
  refine wpN_of ?_
  show wpAny _ _ (Builtin.Bytes.exportsOf (.ref a) >>= fun x => pure (decide (x > 0))) _ _ _
  unfold Builtin.Bytes.exportsOf
  refine wpAny_bind (wpAny_bind (wpAny_load ho (wpAny_pure (wpAny_pure ?_))))
  refine wpN_of_false (by decide) ?_
  refine wpN_bindA (ba_write ho (Nat.zero_le _) ?_)
  have ho₁ := ba_updated (f := fun _ => #[]) ho
  dsimp only
  refine wpN_bindA (wpAny_of_eq (a := none) rfl ?_)
  refine wpN_of_false rfl ?_
  refine wpN_bindA (wpAny_of_eq (a := ()) rfl ?_)
  have hTi : ∀ s' : Shared, s'.TypeIs (.int n t) "int" := fun _ => rfl
  refine wpN_bindA (wpAny_specialOf (hTi _) F.int_index ?_)
  refine wpN_of_true rfl ?_
  refine wpN_bindA (wpAny_attempt (wpAny_of_eq (rfl : asIndex (.int n t) = pure n) ?_))
  refine wpN_of ?_
  dsimp only
  have hfi : Builtin.Bytes.fitsIndex n = true := by simp only [Builtin.Bytes.fitsIndex, Bool.and_eq_true, decide_eq_true_eq]; omega
  rw [hfi]
  refine bm_if_false rfl ?_
  rw [if_neg (by omega)]
  refine bm_if_false (by rw [beq_eq_false_iff_ne]; omega) ?_
  refine bm_if_false (by show decide (n.toNat > sizeLine) = false; rw [decide_eq_false_iff_not, sizeLine_eq]; omega) ?_
  refine wpAny_bind (wpAny_rule ?_)
  have fin : ∀ h₂ : Heap, h₂.get? a = some (baObj (Array.replicate n.toNat 0)) → Heap.SameBut a s.heap h₂ → Q (.done (.ret .none)) { s with heap := h₂ } := fun h₂ e1 e2 => h h₂ s.toks e1 e2
  have hs₁ : Heap.SameBut a s.heap (s.heap.update a (Obj.mapBytearray fun _ => #[])) := Heap.SameBut.update ..
  split
  · refine wpAny_bind (ba_write ho₁ (by rw [Array.size_replicate, sizeLine_eq]; omega) (wpAny_pure ?_))
    exact fin _ (ba_updated ho₁) ⟨by simp, fun b hb => ((Heap.SameBut.update ..).2 b hb).trans (hs₁.2 b hb)⟩
  · refine wpAny_pure (fin _ ?_ hs₁)
    have : n = 0 := by omega
    subst this
    exact ho₁
theorem call_ba {n : Int} {t : Tok} {Q : Value → Shared → Prop} (h0 : 0 ≤ n) (h1 : n ≤ 1000000)
    (hQ : ∀ h' tk, h'.get? s.heap.objs.size = some (baObj (Array.replicate n.toNat 0)) → (∀ b o, s.heap.get? b = some o → h'.get? b = some o) → Q (.ref s.heap.objs.size) { s with heap := h', toks := tk }) :
    wpN (model prog w) A (call (.type "bytearray") [.int n t]) Q E s := by
  have ft := F.ba_called
  refine wpN_call (codeN_of_tree rfl ?_)
  show wpN _ _ (pure (Fin.again (.builtin "type.__call__" ⟨[.type "bytearray", .int n t], []⟩))) _ _ _
  refine wpN_pure ⟨Code.quiet_builtin _ (by decide +kernel), codeN_builtin (by decide +kernel) PySem.F.entry_type_call ?_⟩
  rw [Around.under_plain (weight_type_call_type "bytearray" [.int n t] []) rfl]
  unfold Builtin.«type.__call__»
  dsimp only
  refine wpN_of_false ft.notType ?_
  refine wpN_of_false ft.canCreate ?_
  refine wpN_bindA (wpAny_of_eq (F.ba_typeCall _) ?_)
  refine wpN_bindA (wpAny_of_eq F.ba_mro ?_)
  refine wpN_of_false rfl ?_
  refine wpN_bindA (wpAny_of_eq ft.made ?_)
  dsimp only
  refine wpN_bindA (wpAny_pure ?_)
  refine wpN_bindA (wpAny_holding (wpAny_call (ba_new _ ?_)))
  have ho : (s.heap.push (baObj #[])).get? s.heap.objs.size = some (baObj #[]) := Heap.get?_push_size _ rfl
  have hT : ({ s with heap := s.heap.push (baObj #[]) } : Shared).TypeIs (.ref s.heap.objs.size) "bytearray" := ⟨_, ho, rfl⟩
  refine wpN_bindA (wpAny_isInstance hT F.ba_sub ?_)
  refine wpN_of_false rfl ?_
  refine wpN_bind (wpN_holding ?_)
  unfold callSpecial?
  refine wpN_bindA (wpAny_specialOf hT ft.init.lookup ?_)
  dsimp only
  refine wpN_holding ?_
  refine wpN_bindA (wpAny_of_eq (ft.init.bind _) ?_)
  refine wpN_bind (wpN_call (codeN_call_builtin (by decide +kernel) ft.init.plain F.ba_entry_init ?_))
  refine ft.init.check _ _ _ _ _ _ _ _ hT (F.ba_args_init _ _) ?_
  refine ba_init (s := { s with heap := s.heap.push (baObj #[]) }) h0 h1 ho fun h' tk e1 e2 => ?_
  refine wpN_pure ?_
  dsimp only
  refine wpN_of_false (by decide) ?_
  refine wpN_pure ?_
  exact hQ h' tk e1 fun b o e => (e2.2 b (Nat.ne_of_lt (Heap.lt_size e))).trans (Heap.get?_push_of_some _ e)
end
end Mine
end

section
open PySem PySem.W PyProof.Rows
set_option maxRecDepth 100000
namespace Mine
open Sem (wp)
section
variable {prog : Program} {w : World} {A : Around} {E : Value → Shared → Prop} {s : Shared}
theorem ba_set {a : Addr} {b : Array UInt8} {k v : Int} {t u : Tok} {Q : Unit → Shared → Prop} (ho : s.heap.get? a = some (baObj b)) (h0 : 0 ≤ k) (h1 : k < b.size) (hz : b.size ≤ sizeLine) (hv0 : 0 ≤ v) (hv1 : v < 256)
    (hQ : Q () { s with heap := s.heap.update a (Obj.mapBytearray (·.setIfInBounds k.toNat v.toNat.toUInt8)) }) :
    wpAny (model prog w) A (setItem (.ref a) (.int k t) (.int v u)) Q E s := by
  have hT : s.TypeIs (.ref a) "bytearray" := ⟨_, ho, rfl⟩
  have hTi : ∀ s' : Shared, s'.TypeIs (.int k t) "int" := fun _ => rfl
  unfold setItem
  refine wpAny_holding ?_
  refine wpAny_bind (wpAny_sequenceKey hT (by decide) ?_)
  refine wpAny_bind (wpAny_callSpecial?_slot (name := Str.ofString "__setitem__") hT F.ba_slot_set
    (wpAny_call_entry F.ba_slot_set hT F.ba_entry_set ?_ (F.ba_args_set _ _ _)))
  unfold Builtin.«bytearray.__setitem__»
  refine bm_if_false rfl ?_
  dsimp only
  unfold Builtin.Bytes.subscript?
  refine wpAny_bind (wpAny_bind (wpAny_specialOf (hTi _) F.int_index ?_))
  refine bm_if_false rfl ?_
  refine wpAny_bind (wpAny_of_eq (rfl : asIndex (.int k t) = pure k) ?_)
  have hsl := sizeLine_eq
  have hfi : Builtin.Bytes.fitsIndex k = true := by simp only [Builtin.Bytes.fitsIndex, Bool.and_eq_true, decide_eq_true_eq]; omega
  rw [hfi]
  refine bm_if_false rfl ?_
  refine wpAny_pure ?_
  dsimp only
  unfold Builtin.Bytes.byteValue
  refine wpAny_bind (wpAny_bind (wpAny_of_eq (rfl : asIndex (.int v u) = pure v) ?_))
  refine bm_if_false (by simp only [Bool.or_eq_false_iff, decide_eq_false_iff_not]; omega) ?_
  refine wpAny_pure ?_
  refine wpAny_bind (ba_payload ho ?_)
  have hs : seqIndex? k b.size = some k.toNat := by
    obtain ⟨j, rfl⟩ := Int.eq_ofNat_of_zero_le h0
    unfold seqIndex?
    simp
    omega
  rw [hs]
  dsimp only
  exact wpAny_bind (ba_write ho (by simpa using hz) (wpAny_pure ⟨.none, rfl, wpAny_pure hQ⟩))
theorem call_bytes_ba {a : Addr} {b : Array UInt8} {Q : Value → Shared → Prop} (ho : s.heap.get? a = some (baObj b)) (hz : b.size ≤ sizeLine)
    (hQ : ∀ t k, Q (.bytes b t) { s with toks := k }) : wpAny (model prog w) A (call (.type "bytes") [.ref a]) Q E s := by
  have hT : s.TypeIs (.ref a) "bytearray" := ⟨_, ho, rfl⟩
  refine callType_codes (Q₁ := fun obj s₁ => s₁.TypeIs obj "bytes" ∧ Q obj s₁) PySem.F.bm_called (PySem.F.bm_typeCall _) PySem.F.entry_object_init ?_ fun obj s₁ h₁ =>
    ⟨h₁.1, PySem.F.args_object_init_2 obj _, object_init_meets PySem.F.bm_called.init.lookup PySem.F.bm_called.made (by decide) prog w A.in1 _ s₁ ⟨h₁.1, rfl, h₁.2⟩⟩
  refine codeAny_of_tree ?_
  show wpAny _ A.in1.in1 (do checkBuiltinCall "bytes.__new__" ⟨[.type "bytes", .ref a], []⟩; again (.builtin "bytes.__new__" ⟨[.type "bytes", .ref a], []⟩)) _ _ s
  refine wpAny_bind (wpAny_of_eq (PySem.F.bm_newCall _) (wpAny_pure ⟨plainId_quiet PySem.F.bm_plain _, codeAny_builtin PySem.F.bm_entry ?_⟩))
  rw [Around.under_plainId PySem.F.bm_plain _]
  unfold Builtin.«bytes.__new__»
  refine wpAny_bind (wpAny_of_eq (a := true) rfl ?_)
  refine bm_if_false rfl ?_
  refine wpAny_bind (wpAny_of_eq PySem.F.bm_sub ?_)
  refine bm_if_false rfl ?_
  refine wpAny_bind (wpAny_of_eq (PySem.F.bm_bind _) ?_)
  refine wpAny_bind (wpAny_of_eq (a := ()) rfl ?_)
  refine wpAny_bind (wpAny_of_eq (a := ()) rfl ?_)
  refine bm_if_false rfl ?_
  refine wpAny_bind (wpAny_specialOf hT F.ba_no_bytes ?_)
  refine wpAny_bind (wpAny_bind ?_)
  show wpAny _ _ (load a >>= _) _ _ _
  refine wpAny_bind (wpAny_load ho ?_)
  refine wpAny_pure (wpAny_pure ?_)
  refine bm_if_false rfl ?_
  refine wpAny_bind (wpAny_specialOf hT F.ba_no_index ?_)
  refine bm_if_true rfl ?_
  show wpAny _ _ (Builtin.Bytes.buffer? "bytes.__new__" (.ref a) true >>= _) _ _ _
  refine wpAny_bind ?_
  unfold Builtin.Bytes.buffer?
  refine wpAny_bind (wpAny_specialOf hT F.ba_look_buffer ?_)
  dsimp only
  refine wpAny_bind (ba_own ho F.ba_look_buffer (by decide +kernel) (by decide +kernel) ?_)
  refine bm_if_false rfl ?_
  refine wpAny_bind (wpAny_specialOf hT F.ba_look_buffer ?_)
  refine wpAny_bind (ba_ownRelease ho ?_)
  refine bm_if_false rfl ?_
  refine wpAny_bind (ba_payload ho (wpAny_pure ?_))
  dsimp only
  refine wpAny_bind (wpAny_rule (wpAny_bind (wpAny_mkBytes ?_ hz)))
  show wpAny _ _ (if (Value.type "bytes" == Value.type "bytes") = true then _ else _) _ _ _
  refine bm_if_true (by decide) ?_
  have hfin := And.intro (PySem.W.typeIs_bytes { s with toks := s.toks + 1 } b s.toks) (hQ s.toks (s.toks + 1))
  first
    | exact wpAny_pure hfin
    | exact wpAny_bind (wpAny_pure (wpAny_pure hfin))
theorem call_ba_K {h₀ : Heap} {L : Addr} {m : Str → Option Value} {news : List (Addr × Obj)} {n : Int} {t : Tok} {Q : Value → Shared → Prop} (F : Fr h₀ L s.heap m) (N : News h₀ L s.heap news) (h0 : 0 ≤ n) (h1 : n ≤ 1000000)
    (hQ : ∀ r h' tk, Fr h₀ L h' m → News h₀ L h' ((r, baObj (Array.replicate n.toNat 0)) :: news) → (∀ p ∈ news, p.1 < r) → Q (.ref r) { s with heap := h', toks := tk }) :
    wpN (model prog w) A (call (.type "bytearray") [.int n t]) Q E s := by
  refine call_ba h0 h1 fun h' tk e1 e2 => ?_
  refine hQ _ h' tk ⟨F.ns.keeps e2, fun b o e => e2 b o (F.keep b o e), F.above⟩ (fun p hp => ?_) fun p hp => Heap.lt_size (N p hp).1
  rcases List.mem_cons.mp hp with rfl | hp
  · refine ⟨e1, Nat.ne_of_gt F.ns.lt, ?_⟩
    cases hq : h₀.get? s.heap.objs.size with
    | none => rfl
    | some o' => exact absurd (Heap.lt_size (F.keep _ _ hq)) (Nat.lt_irrefl _)
  · exact ⟨e2 _ _ (N p hp).1, (N p hp).2⟩
theorem ba_set_K {h₀ : Heap} {L : Addr} {m : Str → Option Value} {own : List (Addr × Obj)} {a : Addr} {b : Array UInt8} {k v : Int} {t u : Tok} {Q : Unit → Shared → Prop} (F : Fr h₀ L s.heap m) (N : News h₀ L s.heap ((a, baObj b) :: own)) (hne : ∀ p ∈ own, p.1 ≠ a)
    (h0 : 0 ≤ k) (h1 : k < b.size) (hz : b.size ≤ 1000) (hv0 : 0 ≤ v) (hv1 : v < 256)
    (hQ : ∀ h', Fr h₀ L h' m → News h₀ L h' ((a, baObj (b.setIfInBounds k.toNat v.toNat.toUInt8)) :: own) → Q () { s with heap := h' }) :
    wpAny (model prog w) A (setItem (.ref a) (.int k t) (.int v u)) Q E s := by
  have ho := N.get (List.Mem.head _)
  refine ba_set ho h0 h1 (by rw [sizeLine_eq]; omega) hv0 hv1 ?_
  obtain ⟨F', N'⟩ := news_upd (pre := []) (post := own) (o' := baObj (b.setIfInBounds k.toNat v.toNat.toUInt8)) (f := Obj.mapBytearray (·.setIfInBounds k.toNat v.toNat.toUInt8)) F N (fun _ h => nomatch h) hne rfl rfl
  exact hQ _ F' N'
end
end Mine
end

section
open PySem PySem.W PyProof.Rows
set_option maxRecDepth 100000
set_option maxHeartbeats 8000000
namespace Mine
example : PySem.Challenge.rw_ph0009_01 = PySem.Challenge.rw_ph0009_01 ∧ hd.heap_39 = hd.heap_39 := by
  k_fill; exact ⟨rfl, rfl⟩
/-- each word of so many signs is turned about -/
structure SwapOf (ks : List Int) (wd : Nat) (rs : List Int) : Prop where
  len : rs.length = ks.length
  at_ : ∀ i j, j < wd → i * wd + j < ks.length → rs[i * wd + (wd - 1 - j)]? = ks[i * wd + j]?
theorem ints_set {c : Array UInt8} {k : Nat} {v : Int} (h0 : 0 ≤ v) (h1 : v < 256) (i : Nat) : (KBw.bInts (c.setIfInBounds k v.toNat.toUInt8))[i]? = if i = k ∧ k < c.size then some v else (KBw.bInts c)[i]? := by
  have hv : ((v.toNat.toUInt8.toNat : Nat) : Int) = v := PySem.W.byte_back h0 h1
  simp only [KBw.bInts, List.getElem?_map, Array.toList_setIfInBounds, List.getElem?_set, Array.length_toList]
  by_cases hi : k = i
  · subst hi
    by_cases hk : k < c.size
    · simp [hk]
      omega
    · simp [hk]
  · have hi' : ¬ i = k := fun e => hi e.symm
    simp [hi, hi']
theorem swap_turn {ks : List Int} {c : Array UInt8} {wd k j kv : Nat} (hr : ∀ n ∈ ks, 0 ≤ n ∧ n < 256) (hkv : k * wd = kv) (hkw : kv + wd ≤ ks.length) (hj : j < wd) (hcs : c.size = ks.length)
    (h1 : ∀ i j, i < k → j < wd → (KBw.bInts c)[i * wd + (wd - 1 - j)]? = ks[i * wd + j]?) (h2 : ∀ j', j' < j → (KBw.bInts c)[kv + (wd - 1 - j')]? = ks[kv + j']?) :
    let c' := c.setIfInBounds ((kv : Int) + wd - 1 - j).toNat ((ks.getD ((kv : Int) + j).toNat 0).toNat.toUInt8)
    c'.size = ks.length ∧ (∀ i j, i < k → j < wd → (KBw.bInts c')[i * wd + (wd - 1 - j)]? = ks[i * wd + j]?) ∧ ∀ j', j' < j + 1 → (KBw.bInts c')[kv + (wd - 1 - j')]? = ks[kv + j']? := by
  have e1 : ((kv : Int) + wd - 1 - j).toNat = kv + (wd - 1 - j) := by omega
  have e2 : ((kv : Int) + j).toNat = kv + j := by omega
  have hlt : kv + j < ks.length := by omega
  have hg : ks.getD (kv + j) 0 = ks[kv + j] := by simp [List.getD_eq_getElem?_getD, hlt]
  have hm := hr _ (List.getElem_mem hlt)
  dsimp only
  rw [e1, e2, hg]
  refine ⟨by simpa using hcs, fun i j' hi hj' => ?_, fun j' hj' => ?_⟩
  · rw [ints_set hm.1 hm.2, if_neg, h1 i j' hi hj']
    have : (i + 1) * wd ≤ k * wd := Nat.mul_le_mul_right wd hi
    rw [Nat.add_mul, Nat.one_mul, hkv] at this
    omega
  · rw [ints_set hm.1 hm.2]
    by_cases hjj : j' = j
    · subst hjj
      rw [if_pos (by omega)]
      simp [hlt]
    · rw [if_neg (by omega)]
      exact h2 j' (by omega)
theorem byteswap_ok (w : World) (mean : ExcName → Option Value) (mg mb : Str → Option Value) (b : Array UInt8) (ks : List Int) (t1 t2 : Tok) (wd q : Nat) (news : List (Addr × Obj))
   (hb : KBw.bInts b = ks) (hw : 0 < wd) (hq : ks.length = q * wd) (hz : ks.length ≤ 1000) (hwz : wd ≤ 1000)
   (dp un : Nat) (gd : Option (List Code)) (cn : Str) (cs : Scope) (a : Addr) (ccd : Value) (cl : List (Str × Addr)) (outer : List Env) (A₀ : Around) (base h₀ : Heap) (L : Addr) (m : Str → Option Value) (s : Shared) (Q E : Value → Shared → Prop)
    (hB : Below A₀ base outer h₀) (hF : Fr h₀ L s.heap m) (hK : (hd.heap_39 w.params).In h₀) (hN : News h₀ L s.heap news) (hT : Top hd.view_39 (looseW hd.view_39 []) mean mg mb h₀) (hk : cs.kind = .function) (hdp : dp + 1 < recursionLimit) (hun : un + 10 < cLine)
    (hret : ∀ (r : Array UInt8) (t : Tok) (h' : Heap) (tk' : Nat), SwapOf ks wd (KBw.bInts r) → Fr h₀ L h' m → News h₀ L h' news → Q (.bytes r t) { s with heap := h', toks := tk' }) :
      wpN (model PySem.Challenge.rw_ph0009_01.row.prog w) (ktrTop dp un gd cn cs L a ccd cl outer) (call (.ref 35) [.bytes b t1, .int wd t2]) Q E s := by
  refine wpN_call ?_
  k_dflt (refine' code_defN ?k1 ?k2 ?k3 ?k4 ?k5 ?kA ?kF ?kK ?k6 ?k7 ?k8 ?k9 ?kB ?_ ?c2 ?c3 ?c4 ?c5; (case kA => exact rfl); (case kF => exact rfl); (case kK => assumption); (case k1 => k_asm); (case k2 => k_asm); (case k3 => k_asm); (case k4 => k_asm); (case k5 => k_asm); (case k6 => k_is); (case k7 => k_is); (case k8 => ktr_room); (case k9 => exact BindsTo.of_eq rfl); (case c5 => decide); (case kB => exact locs rfl); (case c2 => exact rfl); (case c3 => exact rfl); (case c4 => exact rfl); k_whole; intro g' L' h' FG' F' N' B' X' T'; (try dsimp only); (try k_lift B'))
  refine wpN_body (fun Q' => (∀ (r : Array UInt8) (t : Tok) (h2 : Heap) (tk : Nat) (m2 : Str → Option Value), SwapOf ks wd (KBw.bInts r) → Fr g' L' h2 m2 → News g' L' h2 news → Q' (.ret (.bytes r t)) { s with heap := h2, toks := tk })) ?_ (by passes_own) ?_
  · exact fun r t h2 tk m2 hs F2 N2 => leaveK_ F2 N2 fun kF kN => hret r t h2 tk hs kF kN
  intro Q' E' hQ' hE'
  clear hret
  refine wpN_execs_cons (wpN_Assign_Name (wpN_Call (P := fun _ => True) (.type "bytearray") (wpAny_ofH ?_) looks_type))
  k_steps
  refine ⟨rfl, wpN_spliced_cons (wpN_ofH ?_)⟩
  k_steps
  refine ⟨wpN_spliced_nil ⟨trivial, ?_⟩⟩
  rename Fr _ _ _ _ => F1
  rename News _ _ _ _ => N1
  refine call_ba_K F1 N1 (by omega) (by omega) fun r h2 tk F2 N2 hlt => ?_
  clear F1 N1
  refine wpAny_ofH ?_
  k_steps
  refine ⟨wpN_of (hold_cons ?_)⟩
  rename Fr _ _ _ _ => F3
  rename News _ _ _ _ => N3
  have hrs := rangeSize_step hw hq
  have hsm := small_step hw hq hz hwz
  refine for_rng (σ := Array UInt8) (a := 0) (st := (wd : Int)) (n := q) (fun c => (r, baObj c) :: news) (fun _ => []) ["j"] (fun k c => c.size = ks.length ∧ ∀ i j, i < k → j < wd → (KBw.bInts c)[i * wd + (wd - 1 - j)]? = ks[i * wd + j]?) (Array.replicate (ks.length : Int).toNat 0) F3 rfl rfl rfl ?hit (fun _ h => nomatch h) ?h0 ?turn ?done hE'
  case hit =>
    k_steps
    rename Fr _ _ _ _ => F5
    rename News _ _ _ _ => N5
    rename IsRange _ _ _ _ _ _ _ _ => hr
    exact ⟨_, _, _, _, _, _, _, rfl, rfl, hr, hsm, hrs, F5, N5⟩
  case h0 => exact ⟨by simp, fun i j hi => by omega⟩
  case turn =>
    intro c k t u h tk own hk hoff hP F4 N4
    obtain ⟨hcs, hcv⟩ := hP
    have hkw : k * wd + wd ≤ ks.length := by
      rw [hq]
      have : (k + 1) * wd ≤ q * wd := Nat.mul_le_mul_right wd hk
      rw [Nat.add_mul, Nat.one_mul] at this
      exact this
    have hiv : (0 + (k : Int) * (wd : Int)) = ((k * wd : Nat) : Int) := by push_cast; omega
    rw [hiv] at F4
    generalize hkv : k * wd = kv at F4 hkw
    refine hold_cons ?_
    refine for_rng (σ := Array UInt8) (a := 0) (st := 1) (n := wd) (fun c => (r, baObj c) :: (news ++ own)) (fun _ => []) [] (fun j0 c => c.size = ks.length ∧ (∀ i j, i < k → j < wd → (KBw.bInts c)[i * wd + (wd - 1 - j)]? = ks[i * wd + j]?) ∧ ∀ j, j < j0 → (KBw.bInts c)[kv + (wd - 1 - j)]? = ks[kv + j]?) c F4 rfl rfl rfl ?hit2 (fun _ h => nomatch h) ⟨hcs, hcv, fun j hj => by omega⟩ ?turn2 ?done2 hE'
    case hit2 =>
      k_steps
      rename Fr _ _ _ _ => F5
      rename News _ _ _ _ => N5
      rename IsRange _ _ _ _ _ _ _ _ => hr
      exact ⟨_, _, _, _, _, _, _, rfl, rfl, hr, small_one (by omega) (by omega) (by omega) (by omega), by rw [rangeSize_nat]; omega, F5, N5⟩
    case turn2 =>
      intro c j t' u' h' tk' own' hj hoff' hP' F5 N5
      have e1 : (0 + (j : Int) * 1) = (j : Int) := by omega
      rw [e1] at F5
      simp only [List.cons_append, List.append_assoc] at N5
      refine wpAny_ofH ?_
      k_steps
      rename Fr _ _ _ _ => F6
      rename News _ _ _ _ => N6
      obtain ⟨hcs', hcv', hcj'⟩ := hP'
      have hr : ∀ n ∈ ks, 0 ≤ n ∧ n < 256 := fun n hn => KBw.ints_in (by rw [hb]; exact hn)
      have hst := swap_turn hr hkv hkw hj hcs' hcv' hcj'
      have hgd : 0 ≤ ks.getD ((kv : Int) + j).toNat 0 ∧ ks.getD ((kv : Int) + j).toNat 0 < 256 := KBw.getD_in hr
      have hne : ∀ p ∈ news ++ (own ++ own'), p.1 ≠ r := by
        intro p hp
        rcases List.mem_append.mp hp with hp | hp
        · exact Nat.ne_of_lt (hlt p hp)
        · rcases List.mem_append.mp hp with hp | hp
          · exact hoff p hp r (by simp)
          · exact hoff' p hp r (by simp)
      refine ba_set_K F6 N6 hne (by omega) (by omega) (by omega) hgd.1 hgd.2 fun h7 F7 N7 => ?_
      k_steps
      refine ⟨kst_end (c.setIfInBounds ((kv : Int) + wd - 1 - j).toNat ((ks.getD ((kv : Int) + j).toNat 0).toNat.toUInt8)) F7 N7 ?_ ?_ rfl trivial (fun _ h => nomatch h) ?_ hst⟩
      · intro p hp
        simp only [List.mem_cons, List.mem_append] at hp ⊢
        rcases hp with h | h | h <;> simp [h]
      · intro p hp
        simp only [List.mem_cons, List.mem_append]
        simp [hp]
      · (intro z h1 h2 h3; (try simp only [List.contains_cons, List.contains_nil, Bool.or_false, Bool.or_eq_false_iff, beq_eq_false_iff_ne, ne_eq] at h3); simp [kstB, h1, h3])
    case done2 =>
      intro c' u' h' tk' hP' F5 N5
      refine ⟨?_⟩
      dsimp only
      refine wpAny_ofH ?_
      k_steps
      refine ⟨kst_end c' F5 N5 ?_ ?_ rfl trivial (fun _ h => nomatch h) ?_ ⟨hP'.1, fun i j hi hj => ?_⟩⟩
      · intro p hp
        simp only [List.mem_cons, List.mem_append] at hp ⊢
        rcases hp with h | h <;> simp [h]
      · intro p hp
        simp only [List.mem_cons, List.mem_append]
        simp [hp]
      · (intro z h1 h2 h3; (try simp only [List.contains_cons, List.contains_nil, Bool.or_false, Bool.or_eq_false_iff, beq_eq_false_iff_ne, ne_eq] at h3); simp [kstB, h1, h3])
      · rcases Nat.lt_succ_iff_lt_or_eq.mp hi with hi | rfl
        · exact hP'.2.1 i j hi hj
        · rw [hkv]; exact hP'.2.2 j hj
  case done =>
    intro c u h tk hP F4 N4
    refine ⟨?_⟩
    dsimp only
    k_steps
    rename Fr _ _ _ _ => F5
    rename News _ _ _ _ => N5
    refine call_bytes_ba (N5.get (List.Mem.head _)) (by rw [hP.1, sizeLine_eq]; omega) fun t k => ?_
    k_steps
    refine hQ' c _ _ _ _ ⟨by rw [KBw.ints_length]; exact hP.1, fun i j hj hi => hP.2 i j ?_ hj⟩ F5 fun p hp => N5 p (.tail _ hp)
    rw [hq] at hi
    exact Nat.lt_of_mul_lt_mul_right (a := wd) (Nat.lt_of_le_of_lt (Nat.le_add_right _ _) hi)
end Mine
end

section
open PySem PySem.W PyProof.Rows
set_option maxRecDepth 100000
set_option maxHeartbeats 8000000
namespace Mine
example : PySem.Challenge.rw_ph0009_01 = PySem.Challenge.rw_ph0009_01 ∧ hd.heap_39 = hd.heap_39 := by
  k_fill; exact ⟨rfl, rfl⟩
def collT (x y : List Nat) : Int := b2i (decide (y < x)) - b2i (decide (x < y))
theorem strcoll_ok (w : World) (mean : ExcName → Option Value) (mg mb : Str → Option Value) (x y : PySem.Str) (t1 t2 : Tok) (news : List (Addr × Obj)) :
  CtrV w mean mg mb 1 21 news [.str x t1, .str y t2] (fun t => .int (collT x.cps.toList y.cps.toList) t) := by
  intro dp un gd cn cs a ccd cl outer A₀ base h₀ L m s Q E hB hF hK hN hT hk hdp hun hret
  refine wpAny_call ?_
  k_dflt cell_enter
  k_steps
  rename Fr _ _ _ _ => F1
  rename News _ _ _ _ => N1
  exact hret _ _ _ F1 N1
def bestAt (t : List Nat) : Nat → Nat
  | 0 => 0
  | k + 1 => if collT (t.drop (k + 1)) (t.drop (bestAt t k)) = 1 then k + 1 else bestAt t k
theorem bestAt_le (t : List Nat) : ∀ k, bestAt t k ≤ k
  | 0 => Nat.le_refl _
  | k + 1 => by
    have := bestAt_le t k
    unfold bestAt
    split <;> omega
local macro_rules | `(tactic| walk_at "eval ListComp") => `(tactic| refine Hold.out ?_)
local macro_rules | `(tactic| walk_at "call ref") => `(tactic| refine Hold.out ?_)
theorem strs_of {ks : List Int} : ∀ {ys : List Value}, ys.length = ks.length → (∀ (i : Nat) (y : Value), ys[i]? = some y → ∃ t k, ks[i]? = some k ∧ y = .str ⟨#[k.toNat]⟩ t) → StrsAre ys (ks.map fun k => ⟨#[k.toNat]⟩) := by
  induction ks with
  | nil =>
    intro ys hl _
    cases ys with
    | nil => exact .nil
    | cons _ _ => cases hl
  | cons k r ih =>
    intro ys hl h
    cases ys with
    | nil => cases hl
    | cons y q =>
      obtain ⟨t, k', hk, rfl⟩ := h 0 y (by simp)
      simp at hk
      subst hk
      exact .cons _ t (ih (by simpa using hl) fun i z hz => h (i + 1) z (by simpa using hz))
theorem join_fold (r : List Int) : ∀ a : Array Nat, ((r.map fun k => (⟨#[k.toNat]⟩ : Str)).foldl (fun acc p => acc ++ (⟨#[]⟩ : Str).cps ++ p.cps) a).toList = a.toList ++ r.map Int.toNat := by
  induction r with
  | nil => intro a; simp
  | cons k r ih =>
    intro a
    rw [List.map_cons, List.foldl_cons, ih]
    simp
theorem join_ones (ks : List Int) : (Txt.join (Str.ofString "") (ks.map fun k => ⟨#[k.toNat]⟩)).cps.toList = ks.map Int.toNat := by
  have e : Str.ofString "" = ⟨#[]⟩ := by decide +kernel
  rw [e]
  show (Builtin.Str.glued _ _).cps.toList = _
  unfold Builtin.Str.glued
  cases ks with
  | nil => rfl
  | cons k r =>
    show ((r.map fun k => (⟨#[k.toNat]⟩ : Str)).foldl (fun acc p => acc ++ (⟨#[]⟩ : Str).cps ++ p.cps) #[k.toNat]).toList = _
    rw [join_fold]
    rfl
theorem ones_len (ks : List Int) : ((ks.map fun k => (⟨#[k.toNat]⟩ : Str)).map (·.length)).sum = ks.length := by
  induction ks with
  | nil => rfl
  | cons k r ih =>
    rw [List.map_cons, List.map_cons, List.sum_cons, ih]
    show 1 + r.length = r.length + 1
    omega
theorem slice_drop {x : Str} {k : Nat} (hk : k ≤ x.length) : (Txt.slice x (some (k : Int)) none).cps.toList = x.cps.toList.drop k := by
  have e : Builtin.Str.strSliceIndices (some (k : Int)) none 1 x.length = (List.range (x.length - k)).map (k + ·) := by
    rw [← sliceRange_one]
    unfold Builtin.Str.strSliceIndices
    simp only [show (1 : Int) > 0 by decide, if_true, show ¬ ((k : Int) < 0) by omega, if_false]
    congr 1
    omega
  unfold Txt.slice
  rw [e]
  split
  · rename_i h
    simp only [List.length_map, List.length_range, Bool.and_eq_true, beq_iff_eq] at h
    have : k = 0 := by omega
    subst this
    rw [List.drop_zero]
  · show (((List.range (x.length - k)).map (k + ·)).filterMap (x.cps[·]?)).toArray.toList = _
    rw [List.toList_toArray, pick_run, List.take_of_length_le]
    rw [List.length_drop, Array.length_toList]
    exact Nat.le_refl _
/-- bytes, or a list of the ledger -/
def SrcB (ks : List Int) (news : List (Addr × Obj)) (v : Value) : Prop :=
  (∃ b t, v = .bytes b t ∧ KBw.bInts b = ks) ∨ (∃ l vs n, v = .ref l ∧ (l, ({ cls := .type "list", data := .seq (vs : List Value).toArray n } : Obj)) ∈ news ∧ IntsAre vs ks)
theorem cut_list {M : Model} {A : Around} {t : Sem Value} {Q : Value → Shared → Prop} {E : Value → Shared → Prop} {s : Shared} {h₀ : Heap} {L : Addr} {m : Str → Option Value} (_F : Fr h₀ L s.heap m) (G : List Value → Prop) (news : List (Addr × Obj))
    (h1 : ∀ Q' E', (∀ D ys h tk, G ys → Fr h₀ L h m → News h₀ L h ((D, LCg.lst ys) :: news) → LCg.Off1 D news → Q' (.ref D) { s with heap := h, toks := tk }) → wpAny M A t Q' E' s)
    (h2 : ∀ D ys h tk, G ys → Fr h₀ L h m → News h₀ L h ((D, LCg.lst ys) :: news) → LCg.Off1 D news → Q (.ref D) { s with heap := h, toks := tk }) : wpAny M A t Q E s := h1 Q E h2
theorem greatest_ok (w : World) (mean : ExcName → Option Value) (mg mb : Str → Option Value) (v : Value) (ks : List Int) (news : List (Addr × Obj)) (hv : SrcB ks news v) (hr : ∀ k ∈ ks, 0 ≤ k ∧ k < 256) (hz : ks.length ≤ 1000) :
  CtrV w mean mg mb 2 40 news [v] (fun t => .int (bestAt (ks.map Int.toNat) (ks.length - 1) : Nat) t) := by
  intro dp un gd cn cs a ccd cl outer A₀ base h₀ L m s Q E hB hF hK hN hT hk hdp hun hret
  refine wpAny_call ?_
  k_dflt (refine' code_def ?k1 ?k2 ?k3 ?k4 ?k5 ?kA ?kF ?kK ?k6 ?k7 ?k8 ?k9 ?kB ?_ ?c2 ?c3 ?c4 ?c5; (case kA => exact rfl); (case kF => exact rfl); (case kK => assumption); (case k1 => k_asm); (case k2 => k_asm); (case k3 => k_asm); (case k4 => k_asm); (case k5 => k_asm); (case k6 => k_is); (case k7 => k_is); (case k8 => ktr_room); (case k9 => exact BindsTo.of_eq rfl); (case c5 => decide); (case kB => exact locs rfl); (case c2 => exact rfl); (case c3 => exact rfl); (case c4 => exact rfl); k_whole; intro g' L' h' FG' F1 N1 B' X' T'; (try dsimp only))
  refine wpAny_body (fun Q' => ∀ (t : Tok) (h2 : Heap) (tk : Nat) (m2 : Str → Option Value), Fr g' L' h2 m2 → News g' L' h2 news → Q' (.ret (.int (bestAt (ks.map Int.toNat) (ks.length - 1) : Nat) t)) { s with heap := h2, toks := tk }) ?_ (by passes_own) ?_
  · exact fun t h2 tk m2 F2 N2 => leaveK_ F2 N2 fun kF kN => hret t h2 tk kF kN
  intro Q' E' hQ' hE'
  refine hold_cons ?_
  k_steps
  refine ⟨cut_list F1 (fun ys => ys.length = ks.length ∧ ∀ (i : Nat) (y : Value), ys[i]? = some y → ∃ t k, ks[i]? = some k ∧ y = .str ⟨#[k.toNat]⟩ t) news ?h1 ?h2⟩
  case h1 =>
    intro Q'' E'' hQ''
    rcases hv with ⟨b, t1, rfl, hb⟩ | ⟨l, vs, n, rfl, hl, hi⟩
    · refine lc_bytes F1 rfl (by decide) rfl (by decide) rfl (wpAny_ofH ?_)
      k_steps
      have hbs : b.size = ks.length := by rw [← hb, KBw.ints_length]
      refine ⟨b, t1, news, rfl, rfl, F1, N1, by rw [hbs, sizeLine_eq]; omega, fun s₂ hs₂ => ?_⟩
      obtain ⟨hh, rfl⟩ := hs₂
      refine rest_each (fun i y => ∃ t k, ks[i]? = some k ∧ y = .str ⟨#[k.toNat]⟩ t) ?turn (fun ys hlen hG D h tk F2 N2 ho => hQ'' D ys h tk ⟨hlen.trans hbs, hG⟩ F2 N2 ho)
      intro i v I oI C oC D m₂ ys h tk E' hi hv hC hx F N off ne
      obtain ⟨c, u, hc, rfl⟩ := hv
      have hc' := KBw.ints_get hc
      rw [hb] at hc'
      obtain ⟨hm0, hm1⟩ := hr _ (List.mem_of_getElem? hc')
      refine wpAny_ofH ?_
      k_steps
      exact ⟨⟨h, _, news, rfl, F, N, off, trivial, rfl, _, _, hc', rfl⟩⟩
    · refine LCg.ListComp_U F1 rfl (by decide) rfl (by decide) rfl (wpAny_ofH ?_)
      k_steps
      refine ⟨LCg.CompSrc.ledger rfl F1 N1 hl (by rw [List.size_toArray, hi.length, sizeLine_eq]; omega) fun g => ?_⟩
      refine rest_each (fun i y => ∃ t k, ks[i]? = some k ∧ y = .str ⟨#[k.toNat]⟩ t) ?turn2 (fun ys hlen hG D h tk F2 N2 ho => hQ'' D ys h tk ⟨by rw [hlen, List.size_toArray, hi.length], hG⟩ F2 N2 ho)
      intro i v I oI C oC D m₂ ys h tk E' hi' hv hC hx F N off ne
      obtain ⟨k, t, rfl, hk'⟩ := IntsAre.at hi i v (by simpa using hv)
      obtain ⟨hm0, hm1⟩ := hr _ (List.mem_of_getElem? hk')
      refine wpAny_ofH ?_
      k_steps
      exact ⟨⟨h, _, news, rfl, F, N, off, .inr ⟨_, hl, rfl, _, rfl⟩, rfl, _, _, hk', rfl⟩⟩
  case h2 =>
    intro D ys h tk ⟨hl, hG⟩ F2 N2 ho
    k_steps
    rename Fr _ _ _ _ => F3
    rename News _ _ _ _ => N3
    refine join_listC (News.isList N3 (.head _)) (strs_of hl hG) (by decide +kernel) ?hok fun t' k' => ?_
    case hok => rw [ones_len, List.length_map]; omega
    generalize hx : Txt.join (Str.ofString "") (ks.map fun k => (⟨#[k.toNat]⟩ : Str)) = xx
    have hxx : xx.cps.toList = ks.map Int.toNat := by rw [← hx]; exact join_ones ks
    have hxl : xx.length = ks.length := by show xx.cps.size = _; rw [← Array.length_toList, hxx, List.length_map]
    k_steps
    refine ⟨hold_cons ?_⟩
    k_steps
    refine ⟨hold_cons ?_⟩
    rename Fr _ _ _ _ => F4
    rename News _ _ _ _ => N4
    refine for_rng (σ := Tok × Nat) (a := 1) (st := 1) (n := ks.length - 1) (fun _ => (D, LCg.lst ys) :: news) (fun c => [(Str.ofString "best", .int (c.2 : Int) c.1)]) [] (fun k c => c.2 = bestAt (ks.map Int.toNat) k) (_, 0) F4 rfl rfl rfl (wpAny_ofH ?hit) (by kst_all) rfl ?trn ?done hE'
    case hit =>
      k_steps
      rename Fr _ _ _ _ => F5
      rename News _ _ _ _ => N5
      rename IsRange _ _ _ _ _ _ _ _ => hr
      exact ⟨⟨_, _, _, _, _, _, _, rfl, rfl, hr, small_one (by omega) (by omega) (by omega) (by omega), by rw [rangeSize_nat]; omega, F5, N5⟩⟩
    case trn =>
      intro c i t u h tk own hi hoff hP F5 N5
      have e1 : (1 + (i : Int) * 1) = ((i + 1 : Nat) : Int) := by omega
      rw [e1] at F5
      have hcl : c.2 ≤ i := by rw [hP]; exact bestAt_le _ i
      refine wpAny_ofH ?_
      k_steps
      rename Fr _ _ _ _ => F6
      rename News _ _ _ _ => N6
      refine ⟨?_⟩
      k_dflt (refine' useV (strcoll_ok w mean mg mb _ _ _ _ _) B' F6 X' N6 T' rfl ?_ ?_ ?_)
      · show dp + 1 + 1 < recursionLimit; omega
      · show un + 3 + 10 * 1 < cLine; omega
      intro t2 h7 tk7 F7 N7
      rw [slice_drop (by omega), slice_drop (by omega), hxx]
      have hst : bestAt (ks.map Int.toNat) (i + 1) = if collT ((ks.map Int.toNat).drop (i + 1)) ((ks.map Int.toNat).drop c.2) = 1 then i + 1 else c.2 := by rw [hP]; rfl
      generalize collT ((ks.map Int.toNat).drop (i + 1)) ((ks.map Int.toNat).drop c.2) = cv at hst
      k_steps
      · rename Fr _ _ _ _ => F8
        rename News _ _ _ _ => N8
        refine ⟨kst_end (_, i + 1) F8 N8 (fun p hp => List.mem_append_left _ hp) (fun p hp => List.mem_append_right _ hp) rfl trivial (by kst_all) ?_ ?_⟩
        · (intro z h1 h2 h3; (simp only [List.forall_mem_cons, List.not_mem_nil, false_implies, implies_true, and_true, ne_eq] at h2); simp [kstB, h1, h2])
        · show i + 1 = _
          rw [hst, if_pos (by first | assumption | (simp_all; done))]
      · rename Fr _ _ _ _ => F8
        rename News _ _ _ _ => N8
        refine ⟨kst_end c F8 N8 (fun p hp => List.mem_append_left _ hp) (fun p hp => List.mem_append_right _ hp) rfl trivial (by kst_all) ?_ ?_⟩
        · (intro z h1 h2 h3; (simp only [List.forall_mem_cons, List.not_mem_nil, false_implies, implies_true, and_true, ne_eq] at h2); simp [kstB, h1, h2])
        · show c.2 = _
          rw [hst, if_neg (by first | assumption | (simp_all; done))]
    case done =>
      intro c u h tk hP F5 N5
      refine ⟨?_⟩
      dsimp only
      k_steps
      have hP' : c.2 = bestAt (ks.map Int.toNat) (ks.length - 1) := hP
      dsimp only
      rw [hP']
      exact hQ' _ _ _ _ F5 (fun p hp => N5 p (.tail _ hp))
end Mine
end

section
open PySem PySem.W PyProof.Rows
set_option maxRecDepth 100000
set_option maxHeartbeats 8000000
namespace Mine
example : PySem.Challenge.rw_ph0009_01 = PySem.Challenge.rw_ph0009_01 ∧ hd.heap_39 = hd.heap_39 := by
  k_fill; exact ⟨rfl, rfl⟩
def cutOf (ks : List Int) : Nat := max (bestAt (ks.map Int.toNat) (ks.length - 1)) (bestAt ((ks.map (255 - ·)).map Int.toNat) (ks.length - 1))
local macro_rules | `(tactic| walk_at "eval ListComp") => `(tactic| refine Hold.out ?_)
local macro_rules | `(tactic| walk_at "call ref") => `(tactic| refine Hold.out ?_)
theorem cut_ok (w : World) (mean : ExcName → Option Value) (mg mb : Str → Option Value) (b : Array UInt8) (t1 : Tok) (ks : List Int) (news : List (Addr × Obj)) (hb : KBw.bInts b = ks) (hz : ks.length ≤ 1000) :
  CtrV w mean mg mb 3 45 news [.bytes b t1] (fun t => .int (cutOf ks : Nat) t) := by
  intro dp un gd cn cs a ccd cl outer A₀ base h₀ L m s Q E hB hF hK hN hT hk hdp hun hret
  have hr : ∀ k ∈ ks, 0 ≤ k ∧ k < 256 := fun k hk => KBw.ints_in (by rw [hb]; exact hk)
  have hbs : b.size = ks.length := by rw [← hb, KBw.ints_length]
  refine wpAny_call ?_
  k_dflt (refine' code_def ?k1 ?k2 ?k3 ?k4 ?k5 ?kA ?kF ?kK ?k6 ?k7 ?k8 ?k9 ?kB ?_ ?c2 ?c3 ?c4 ?c5; (case kA => exact rfl); (case kF => exact rfl); (case kK => assumption); (case k1 => k_asm); (case k2 => k_asm); (case k3 => k_asm); (case k4 => k_asm); (case k5 => k_asm); (case k6 => k_is); (case k7 => k_is); (case k8 => ktr_room); (case k9 => exact BindsTo.of_eq rfl); (case c5 => decide); (case kB => exact locs rfl); (case c2 => exact rfl); (case c3 => exact rfl); (case c4 => exact rfl); k_whole; intro g' L' h' FG' F1 N1 B' X' T'; (try dsimp only))
  refine wpAny_body (fun Q' => ∀ (t : Tok) (h2 : Heap) (tk : Nat) (m2 : Str → Option Value), Fr g' L' h2 m2 → News g' L' h2 news → Q' (.ret (.int (cutOf ks : Nat) t)) { s with heap := h2, toks := tk }) ?_ (by passes_own) ?_
  · exact fun t h2 tk m2 F2 N2 => leaveK_ F2 N2 fun kF kN => hret t h2 tk kF kN
  intro Q' E' hQ' hE'
  refine hold_cons ?_
  k_steps
  refine ⟨?_⟩
  k_dflt (refine' useV (greatest_ok w mean mg mb _ ks news (.inl ⟨b, t1, rfl, hb⟩) hr hz) B' F1 X' N1 T' rfl ?_ ?_ ?_)
  · show dp + 1 + 2 < recursionLimit; omega
  · show un + 3 + 10 * 2 < cLine; omega
  intro t2 h2 tk2 F2 N2
  k_steps
  refine ⟨?_⟩
  rename Fr _ _ _ _ => F3
  rename News _ _ _ _ => N3
  refine cut_list F3 (fun ys => IntsAre ys (ks.map (255 - ·))) news ?h1 ?h2
  case h1 =>
    intro Q'' E'' hQ''
    refine lc_bytes F3 rfl (by decide) rfl (by decide) rfl (wpAny_ofH ?_)
    k_steps
    refine ⟨b, t1, news, rfl, rfl, F3, N3, by rw [hbs, sizeLine_eq]; omega, fun s₂ hs₂ => ?_⟩
    obtain ⟨hh, rfl⟩ := hs₂
    refine rest_each (fun i y => ∃ t k, ks[i]? = some k ∧ y = .int (255 - k) t) ?turn (fun ys hlen hG D h tk F2 N2 ho => hQ'' D ys h tk (ints_of (by rw [hlen, hbs, List.length_map]) fun i y hy => by obtain ⟨t, k, hk, rfl⟩ := hG i y hy; exact ⟨t, 255 - k, by simp [hk], rfl⟩) F2 N2 ho)
    intro i v I oI C oC D m₂ ys h tk E' hi hv hC hx F N off ne
    obtain ⟨c, u, hc, rfl⟩ := hv
    have hc' := KBw.ints_get hc
    rw [hb] at hc'
    obtain ⟨hm0, hm1⟩ := hr _ (List.mem_of_getElem? hc')
    refine wpAny_ofH ?_
    k_steps
    exact ⟨⟨h, _, news, rfl, F, N, off, trivial, rfl, _, _, hc', rfl⟩⟩
  case h2 =>
    intro D ys h tk hI F4 N4 ho
    k_steps
    refine ⟨?_⟩
    rename Fr _ _ _ _ => F5
    rename News _ _ _ _ => N5
    have hr2 : ∀ k ∈ ks.map (255 - ·), 0 ≤ k ∧ k < 256 := by
      intro k hk
      obtain ⟨k', hk', rfl⟩ := List.mem_map.mp hk
      have := hr k' hk'
      omega
    k_dflt (refine' useV (greatest_ok w mean mg mb _ (ks.map (255 - ·)) ((D, LCg.lst ys) :: news) (.inr ⟨D, ys, _, rfl, .head _, hI⟩) hr2 (by rw [List.length_map]; exact hz)) B' F5 X' N5 T' rfl ?_ ?_ ?_)
    · show dp + 1 + 2 < recursionLimit; omega
    · show un + 3 + 10 * 2 < cLine; omega
    intro t3 h6 tk6 F6 N6
    k_steps
    rename Fr _ _ _ _ => F7
    rename News _ _ _ _ => N7
    have e : ∀ x y : Nat, (if (y : Int) > (x : Int) then (y : Int) else x) = ((max x y : Nat) : Int) := by intro x y; split <;> omega
    refine ⟨?_⟩
    rw [e, List.length_map]
    exact hQ' _ _ _ _ F7 fun p hp => N7 p (.tail _ hp)
end Mine
end

section
open PySem PySem.W PyProof.Rows
set_option maxRecDepth 100000
set_option maxHeartbeats 8000000
namespace Mine
example : PySem.Challenge.rw_ph0009_01 = PySem.Challenge.rw_ph0009_01 ∧ hd.heap_39 = hd.heap_39 := by
  k_fill; exact ⟨rfl, rfl⟩
def lookN (ks ls : List Int) (place k : Nat) : Nat :=
  if k < ks.length ∧ ks.getD k 0 = ls.getD (place + k) 0 then lookN ks ls place (k + 1) else k
termination_by ks.length - k
decreasing_by omega
theorem lookN_le (ks ls : List Int) (place k : Nat) : k ≤ lookN ks ls place k := by
  rw [lookN]
  split
  · exact Nat.le_trans (Nat.le_succ k) (lookN_le ks ls place (k + 1))
  · exact Nat.le_refl _
termination_by ks.length - k
decreasing_by omega
def searchN (ks ls : List Int) (c p place : Nat) : List Int :=
  if place + ks.length ≤ ls.length then
    if lookN ks ls place c < ks.length then searchN ks ls c p (place + (lookN ks ls place c - c + 1))
    else (if ks.take c = (ls.drop place).take c then [(place : Int)] else []) ++ searchN ks ls c p (place + (p - 1 + 1))
  else []
termination_by ls.length + 1 - place
decreasing_by all_goals omega
theorem same3 {u u2 m₀ : Str → Option Value} {v1 v2 v3 v4 : Value} (v5 : Value) (z : Str) (h2 : ∀ p ∈ [(Str.ofString "place", v5)], z ≠ p.1) (h3 : [Str.ofString "looked"].contains z = false) :
    (fun y => if y = Str.ofString "place" then some v1 else kstB (fun z => if ([] : List Str).contains z then u2 z else if z = Str.ofString "looked" then some v2 else kstB (fun z => if [Str.ofString "looked"].contains z then u z else m₀ z) [(Str.ofString "place", v3)] z) [(Str.ofString "looked", v4)] y) z = m₀ z := by
  simp only [List.forall_mem_cons, List.not_mem_nil, false_implies, implies_true, and_true, ne_eq] at h2
  simp only [List.contains_cons, List.contains_nil, Bool.or_false, beq_eq_false_iff_ne, ne_eq] at h3
  simp [kstB, h2, h3]
local macro_rules | `(tactic| walk_at "exec While Compare cons nil") => `(tactic| refine Hold.out ?_)
local macro_rules | `(tactic| walk_at "exec While Compare") => `(tactic| refine Hold.out ?_)
local macro_rules | `(tactic| walk_at "exec While") => `(tactic| refine Hold.out ?_)
theorem search_ok (w : World) (mean : ExcName → Option Value) (mg mb : Str → Option Value) (b lb : Array UInt8) (t1 t2 t3 t4 : Tok) (ks ls : List Int) (c p : Nat) (news : List (Addr × Obj)) (hb : KBw.bInts b = ks) (hlb : KBw.bInts lb = ls) (hz : ks.length ≤ 1000) (hlz : ls.length ≤ 1000) (hc : c ≤ ks.length) (hp : 0 < p) (hpz : p ≤ 1000) :
  CtrL w mean mg mb 1 64 news [.bytes b t1, .bytes lb t2, .int c t3, .int p t4] (searchN ks ls c p 0) := by
  intro dp un gd cn cs a ccd cl outer A₀ base h₀ L m s Q E hB hF hK hN hT hk hdp hun hret
  refine wpAny_call ?_
  k_dflt (refine' code_def ?k1 ?k2 ?k3 ?k4 ?k5 ?kA ?kF ?kK ?k6 ?k7 ?k8 ?k9 ?kB ?_ ?c2 ?c3 ?c4 ?c5; (case kA => exact rfl); (case kF => exact rfl); (case kK => assumption); (case k1 => k_asm); (case k2 => k_asm); (case k3 => k_asm); (case k4 => k_asm); (case k5 => k_asm); (case k6 => k_is); (case k7 => k_is); (case k8 => ktr_room); (case k9 => exact BindsTo.of_eq rfl); (case c5 => decide); (case kB => exact locs rfl); (case c2 => exact rfl); (case c3 => exact rfl); (case c4 => exact rfl); k_whole; intro g' L' h' FG' F1 N1 B' X' T'; (try dsimp only))
  refine wpAny_body (fun Q' => ∀ (D : Addr) (ys : List Value) (n : Nat) (h2 : Heap) (tk : Nat) (m2 : Str → Option Value), IntsAre ys (searchN ks ls c p 0) → Fr g' L' h2 m2 → News g' L' h2 ((D, listOf ys.toArray n) :: news) → (∀ p ∈ news, p.1 ≠ D) → Q' (.ret (.ref D)) { s with heap := h2, toks := tk }) ?_ (by passes_own) ?_
  · exact fun D ys n h2 tk m2 hi F2 N2 hd => leaveK_ F2 N2 fun kF kN => hret D ys n h2 tk hi kF kN hd
  intro Q' E' hQ' hE'
  refine hold_cons ?_
  k_steps
  refine ⟨hold_cons ?_⟩
  k_steps
  refine ⟨hold_cons ?_⟩
  rename Fr _ _ _ _ => F2
  rename News _ _ _ _ => N2
  rename_i l1 _ _
  rename_i D _ _ _
  refine ksw_while (σ := Nat × Tok × List Value × Nat × List Int) (fun x => (D, listOf x.2.2.1.toArray x.2.2.2.1) :: news) (fun x => [(Str.ofString "place", .int (x.1 : Int) x.2.1)]) (fun x => IntsAre x.2.2.1 x.2.2.2.2) ["looked"]
    (fun x => x.1 ≤ ls.length + 1000 ∧ x.2.2.2.2.length ≤ x.1 ∧ x.2.2.2.2 ++ searchN ks ls c p x.1 = searchN ks ls c p 0) (fun x => ls.length + 2000 - x.1) (0, _, [], 0, []) F2 N2 .nil (by kst_all) ⟨by omega, Nat.le_refl _, rfl⟩ ?turn hE'
  rintro ⟨place, tp, ys, ne, fs⟩ u h tk hI ⟨hpz1, hfl, hS⟩ F3 N3
  dsimp only at hI hpz1 hfl hS F3 N3
  refine wpAny_ofH ?_
  k_steps
  refine ⟨?_⟩
  by_cases hcond : place + ks.length ≤ ls.length
  case neg =>
    rw [if_neg (by simp only [decide_eq_true_eq]; omega)]
    have hnil : searchN ks ls c p place = [] := by rw [searchN, if_neg hcond]
    rw [hnil, List.append_nil] at hS
    refine ⟨?_⟩
    k_steps
    exact hQ' D ys ne _ _ _ (hS ▸ hI) F3 N3 fun q hq => Nat.ne_of_lt (l1 q hq)
  case pos =>
    rw [if_pos (by simp only [decide_eq_true_eq]; omega)]
    refine hold_cons ?_
    k_steps
    refine ⟨hold_cons ?_⟩
    rename Fr _ _ _ _ => F4
    rename News _ _ _ _ => N4
    refine ksw_while (σ := Nat × Tok) (fun x => (D, listOf ys.toArray ne) :: news) (fun x => [(Str.ofString "looked", .int (x.1 : Int) x.2)]) (fun _ => True) []
      (fun x => c ≤ x.1 ∧ x.1 ≤ ks.length ∧ lookN ks ls place x.1 = lookN ks ls place c) (fun x => ks.length - x.1) (c, _) F4 N4 trivial (by kst_all) ⟨Nat.le_refl _, hc, rfl⟩ ?turn2 hE'
    rintro ⟨k, tk1⟩ u2 h2 tk2 _ ⟨hk1, hk2, hk3⟩ F5 N5
    dsimp only at hk1 hk2 hk3 F5 N5
    refine wpAny_ofH ?_
    have e1 : ((k : Int)).toNat = k := by omega
    have e2 : ((place : Int) + (k : Int)).toNat = place + k := by omega
    k_steps
    · rename_i hlt _ _ _ _ _ _ _ _ heq
      rw [e1, e2] at heq
      refine ⟨?_⟩
      rw [if_pos rfl]
      refine wpAny_ofH ?_
      k_steps
      rename Fr _ _ _ _ => F6
      rename News _ _ _ _ => N6
      refine ⟨ksw_end (k + 1, _) F6 N6 (fun p hp => hp) trivial (by kst_all) ?_ ⟨by show c ≤ k + 1; omega, by show k + 1 ≤ ks.length; omega, ?_⟩ ?_⟩
      · intro z h2 h3
        (simp only [List.forall_mem_cons, List.not_mem_nil, false_implies, implies_true, and_true, ne_eq] at h2)
        simp [kstB, h2]
      · show lookN ks ls place (k + 1) = _
        rw [← hk3]
        conv => rhs; rw [lookN]
        rw [if_pos ⟨by omega, heq⟩]
      · show ks.length - (k + 1) < ks.length - k
        omega
    · rename_i hlt _ _ _ _ _ _ _ _ hne
      rw [e1, e2] at hne
      have hl : lookN ks ls place c = k := by
        rw [← hk3, lookN, if_neg (fun z => hne z.2)]
      refine ⟨?_⟩
      rw [if_neg (by decide)]
      refine ⟨?_⟩
      refine wpAny_ofH ?_
      k_steps
      rename Fr _ _ _ _ => F6
      rename News _ _ _ _ => N6
      have e3 : ((place : Int) + ((k : Int) - (c : Int) + 1)) = ((place + (k - c + 1) : Nat) : Int) := by omega
      rw [e3] at F6
      refine ⟨ksw_end (place + (k - c + 1), _, ys, ne, fs) F6 N6 (fun p hp => hp) hI (by kst_all) (same3 _) ⟨by show place + (k - c + 1) ≤ _; omega, by show fs.length ≤ place + (k - c + 1); omega, ?_⟩ ?_⟩
      · show fs ++ searchN ks ls c p (place + (k - c + 1)) = _
        rw [← hS]
        conv => rhs; rw [searchN, if_pos hcond, hl, if_pos (by omega)]
      · show ls.length + 2000 - (place + (k - c + 1)) < ls.length + 2000 - place
        omega
    · rename_i hge
      have hkn : k = ks.length := by omega
      have hl : lookN ks ls place c = ks.length := by
        rw [← hk3, lookN, if_neg (fun z => by omega), hkn]
      refine ⟨?_⟩
      rw [if_neg (by decide)]
      refine ⟨?_⟩
      refine wpAny_ofH ?_
      have hcmp : ((KBy.picked b none (some (c : Int))).toList == (KBy.picked lb (some (place : Int)) (some ((place : Int) + (c : Int)))).toList) = decide (ks.take c = (ls.drop place).take c) := by
        rw [bytes_eq_ints, KBc.ints_picked hb, KBc.ints_picked hlb]
        have e4 : clipAt ls.length ((place : Int) + (c : Int)) = min (place + c) ls.length := by
          rw [show ((place : Int) + (c : Int)) = ((place + c : Nat) : Int) by omega, clipAt_nat]
        simp only [Option.elim, clipAt_nat, e4, List.drop_zero, Nat.sub_zero]
        rw [show min c ks.length = c by omega, show min place ls.length = place by omega, show min (place + c) ls.length - place = c by omega]
      have e5 : ((place : Int) + (p : Int)) = ((place + p : Nat) : Int) := by omega
      have e6 : p - 1 + 1 = p := by omega
      have hS2 : fs ++ ((if ks.take c = (ls.drop place).take c then [(place : Int)] else []) ++ searchN ks ls c p (place + p)) = searchN ks ls c p 0 := by
        rw [← hS]
        conv => rhs; rw [searchN, if_pos hcond, hl, if_neg (by omega), e6]
      k_steps
      · rename ((_ == _) = true) => hab
        rw [hcmp, decide_eq_true_eq] at hab
        rw [if_pos hab] at hS2
        rename Fr _ _ _ _ => F6
        rename News _ _ _ _ => N6
        rw [e5] at F6
        rw [List.push_toArray] at N6
        refine ⟨ksw_end (place + p, _, ys ++ [.int place tp], ne + 1, fs ++ [(place : Int)]) F6 N6 (fun p hp => hp) (ints_snoc hI) (by kst_all) (same3 _) ⟨by show place + p ≤ _; omega, by show (fs ++ [(place : Int)]).length ≤ place + p; rw [List.length_append]; simp only [List.length_cons, List.length_nil]; omega, ?_⟩ ?_⟩
        · show (fs ++ [(place : Int)]) ++ searchN ks ls c p (place + p) = _
          rw [List.append_assoc]; exact hS2
        · show ls.length + 2000 - (place + p) < ls.length + 2000 - place
          omega
      · rename ((_ == _) = false) => hab
        rw [hcmp, decide_eq_false_iff_not] at hab
        rw [if_neg hab, List.nil_append] at hS2
        rename Fr _ _ _ _ => F6
        rename News _ _ _ _ => N6
        rw [e5] at F6
        refine ⟨ksw_end (place + p, _, ys, ne, fs) F6 N6 (fun p hp => hp) hI (by kst_all) (same3 _) ⟨by show place + p ≤ _; omega, by show fs.length ≤ place + p; omega, hS2⟩ ?_⟩
        show ls.length + 2000 - (place + p) < ls.length + 2000 - place
        omega
end Mine
end

section
open PySem PySem.W PyProof.Rows
set_option maxRecDepth 100000
set_option maxHeartbeats 8000000
namespace Mine
example : PySem.Challenge.rw_ph0009_01 = PySem.Challenge.rw_ph0009_01 ∧ hd.heap_39 = hd.heap_39 := by
  k_fill; exact ⟨rfl, rfl⟩
/-- the signs ahead of the place are like the signs so many places further on -/
abbrev Alike (ks : List Int) (place r : Nat) : Prop :=
  (ks.drop (place - r)).take (min place (ks.length - r) - (place - r)) = (ks.drop (place - r + r)).take (min place (ks.length - r) - (place - r))
def reachN (ks : List Int) (place k : Nat) : Nat :=
  if k < ks.length then if Alike ks place (k + 1) then k + 1 else reachN ks place (k + 1) else 0
termination_by ks.length - k
decreasing_by omega
theorem swap_alike {la lb r1 r2 : List Int} {wd : Nat} (h1 : la.length = wd) (h2 : lb.length = wd) (s1 : SwapOf (la ++ lb) wd r1) (s2 : SwapOf (la ++ lb) (2 * wd) r2) : r1 = r2 ↔ la = lb := by
  have hl : (la ++ lb).length = 2 * wd := by rw [List.length_append]; omega
  have a1 : ∀ j, j < wd → r1[wd - 1 - j]? = la[j]? := by
    intro j hj
    have := s1.at_ 0 j hj (by omega)
    rwa [Nat.zero_mul, Nat.zero_add, Nat.zero_add, List.getElem?_append_left (by omega)] at this
  have b1 : ∀ j, j < wd → r1[wd + (wd - 1 - j)]? = lb[j]? := by
    intro j hj
    have := s1.at_ 1 j hj (by omega)
    rwa [Nat.one_mul, List.getElem?_append_right (by omega), h1, Nat.add_sub_cancel_left] at this
  have a2 : ∀ j, j < wd → r2[wd + (wd - 1 - j)]? = la[j]? := by
    intro j hj
    have := s2.at_ 0 j (by omega) (by omega)
    rw [Nat.zero_mul, Nat.zero_add, Nat.zero_add, List.getElem?_append_left (by omega)] at this
    rw [← this]; congr 1; omega
  have b2 : ∀ j, j < wd → r2[wd - 1 - j]? = lb[j]? := by
    intro j hj
    have := s2.at_ 0 (wd + j) (by omega) (by omega)
    rw [Nat.zero_mul, Nat.zero_add, Nat.zero_add, List.getElem?_append_right (by omega), h1, Nat.add_sub_cancel_left] at this
    rw [← this]; congr 1; omega
  constructor
  · rintro rfl
    refine List.ext_getElem? fun j => ?_
    by_cases hj : j < wd
    · rw [← a1 j hj, b2 j hj]
    · rw [List.getElem?_eq_none (by omega), List.getElem?_eq_none (by omega)]
  · rintro rfl
    refine List.ext_getElem? fun k => ?_
    by_cases hk : k < wd
    · have x1 := a1 (wd - 1 - k) (by omega)
      have x2 := b2 (wd - 1 - k) (by omega)
      rw [show wd - 1 - (wd - 1 - k) = k by omega] at x1 x2
      rw [x1, x2]
    · by_cases hk2 : k < 2 * wd
      · have x1 := b1 (2 * wd - 1 - k) (by omega)
        have x2 := a2 (2 * wd - 1 - k) (by omega)
        rw [show wd + (wd - 1 - (2 * wd - 1 - k)) = k by omega] at x1 x2
        rw [x1, x2]
      · rw [List.getElem?_eq_none (by rw [s1.len]; omega), List.getElem?_eq_none (by rw [s2.len]; omega)]
theorem two_min {a b c d n : Nat} (h : n ≤ 400) : min a (n - c) + min b (n - d) ≤ 16777216 := by
  have s (x y : Nat) : min x (n - y) ≤ 400 := Nat.le_trans (Nat.le_trans (Nat.min_le_right _ _) (Nat.sub_le _ _)) h
  exact Nat.le_trans (Nat.add_le_add (s a c) (s b d)) (by decide)
theorem tk_all {a b n : Nat} (h : a ≤ b) (h' : b ≤ n) : min (b - a) (n - a) = b - a := Nat.min_eq_left (Nat.sub_le_sub_right h' a)
theorem tk_off {a b i n : Nat} (h : a ≤ b) (h' : b + i ≤ n) : min (b - a) (n - (a + i)) = b - a := Nat.min_eq_left (by omega)
local macro_rules | `(tactic| walk_at "call ref") => `(tactic| refine Hold.out ?_)
theorem reach_ok (w : World) (mean : ExcName → Option Value) (mg mb : Str → Option Value) (b : Array UInt8) (t1 t2 : Tok) (ks : List Int) (place : Nat) (news : List (Addr × Obj)) (hb : KBw.bInts b = ks) (hz : ks.length ≤ 400) (hpl : place ≤ ks.length) :
  CtrN w mean mg mb 2 52 news [.bytes b t1, .int place t2] (fun t => .int (reachN ks place 0 : Nat) t) := by
  intro dp un gd cn cs a ccd cl outer A₀ base h₀ L m s Q E hB hF hK hN hT hk hdp hun hret
  have hbs : b.size = ks.length := by rw [← hb, KBw.ints_length]
  refine wpN_call ?_
  k_dflt (refine' code_defN ?k1 ?k2 ?k3 ?k4 ?k5 ?kA ?kF ?kK ?k6 ?k7 ?k8 ?k9 ?kB ?_ ?c2 ?c3 ?c4 ?c5; (case kA => exact rfl); (case kF => exact rfl); (case kK => assumption); (case k1 => k_asm); (case k2 => k_asm); (case k3 => k_asm); (case k4 => k_asm); (case k5 => k_asm); (case k6 => k_is); (case k7 => k_is); (case k8 => ktr_room); (case k9 => exact BindsTo.of_eq rfl); (case c5 => decide); (case kB => exact locs rfl); (case c2 => exact rfl); (case c3 => exact rfl); (case c4 => exact rfl); k_whole; intro g' L' h' FG' F1 N1 B' X' T'; (try dsimp only); (try k_lift B'))
  refine wpN_body (fun Q' => ∀ (t : Tok) (h2 : Heap) (tk : Nat) (m2 : Str → Option Value), Fr g' L' h2 m2 → News g' L' h2 news → Q' (.ret (.int (reachN ks place 0 : Nat) t)) { s with heap := h2, toks := tk }) ?_ (by passes_own) ?_
  · exact fun t h2 tk m2 F2 N2 => leaveK_ F2 N2 fun kF kN => hret t h2 tk kF kN
  intro Q' E' hQ' hE'
  refine wpN_execs_cons ?_
  refine for_rngN (σ := Unit) (a := 1) (st := 1) (n := ks.length) (fun _ => news) (fun _ => []) ["low", "high", "both"] (fun k _ => reachN ks place k = reachN ks place 0) () F1 rfl rfl rfl (wpAny_ofH ?hit) (fun _ h => nomatch h) rfl ?trn ?done
  case hit =>
    k_steps
    rename Fr _ _ _ _ => F5
    rename News _ _ _ _ => N5
    rename IsRange _ _ _ _ _ _ _ _ => hr
    exact ⟨⟨_, _, _, _, _, _, _, rfl, rfl, hr, small_one (by omega) (by omega) (by omega) (by omega), by rw [rangeSize_nat]; omega, F5, N5⟩⟩
  case trn =>
    intro c i t u h tk own hi hoff hP F5 N5
    have e1 : (1 + (i : Int) * 1) = ((i + 1 : Nat) : Int) := by omega
    rw [e1] at F5
    generalize hlo : place - (i + 1) = lo
    generalize hhi : min place (ks.length - (i + 1)) = hi'
    have e2 : (if (place : Int) - ((i + 1 : Nat) : Int) > 0 then (place : Int) - ((i + 1 : Nat) : Int) else 0) = (lo : Int) := by split <;> omega
    have e3 : (if (ks.length : Int) - ((i + 1 : Nat) : Int) < (place : Int) then (ks.length : Int) - ((i + 1 : Nat) : Int) else (place : Int)) = (hi' : Int) := by split <;> omega
    have hle : lo ≤ hi' := by omega
    have hh1 : hi' + (i + 1) ≤ ks.length := by omega
    have hal : Alike ks place (i + 1) ↔ (ks.drop lo).take (hi' - lo) = (ks.drop (lo + (i + 1))).take (hi' - lo) := by unfold Alike; rw [hlo, hhi]
    have hst : reachN ks place i = if Alike ks place (i + 1) then i + 1 else reachN ks place (i + 1) := by rw [reachN, if_pos hi]
    refine holdN_cons ?_
    k_steps
    refine ⟨?_⟩
    rename Fr _ _ _ _ => F6
    rename News _ _ _ _ => N6
    rw [e2] at F6
    refine holdN_cons ?_
    k_steps
    refine ⟨?_⟩
    rename Fr _ _ _ _ => F7
    rename News _ _ _ _ => N7
    rw [e3] at F7
    have hsz : min (min hi' ks.length - min lo ks.length) (ks.length - min lo ks.length) + min (clipAt ks.length ((hi' : Int) + ((i + 1 : Nat) : Int)) - clipAt ks.length ((lo : Int) + ((i + 1 : Nat) : Int))) (ks.length - clipAt ks.length ((lo : Int) + ((i + 1 : Nat) : Int))) ≤ 16777216 := two_min hz
    refine holdN_cons ?_
    k_steps
    refine ⟨?_⟩
    rename Fr _ _ _ _ => F8
    rename News _ _ _ _ => N8
    have hA1 : KBw.bInts (KBy.picked b (some (lo : Int)) (some (hi' : Int))) = (ks.drop lo).take (hi' - lo) := by
      rw [KBc.ints_picked hb]
      simp only [Option.elim, clipAt_nat]
      rw [show min lo ks.length = lo by omega, show min hi' ks.length = hi' by omega]
    have hA2 : KBw.bInts (KBy.picked b (some ((lo : Int) + ((i + 1 : Nat) : Int))) (some ((hi' : Int) + ((i + 1 : Nat) : Int)))) = (ks.drop (lo + (i + 1))).take (hi' - lo) := by
      rw [KBc.ints_picked hb]
      have e4 : clipAt ks.length ((lo : Int) + ((i + 1 : Nat) : Int)) = lo + (i + 1) := by rw [show ((lo : Int) + ((i + 1 : Nat) : Int)) = ((lo + (i + 1) : Nat) : Int) by omega, clipAt_nat]; omega
      have e5 : clipAt ks.length ((hi' : Int) + ((i + 1 : Nat) : Int)) = hi' + (i + 1) := by rw [show ((hi' : Int) + ((i + 1 : Nat) : Int)) = ((hi' + (i + 1) : Nat) : Int) by omega, clipAt_nat]; omega
      simp only [Option.elim]
      rw [e4, e5, show hi' + (i + 1) - (lo + (i + 1)) = hi' - lo by omega]
    have hl1 : ((ks.drop lo).take (hi' - lo)).length = hi' - lo := by rw [List.length_take, List.length_drop]; exact tk_all hle (Nat.le_trans (Nat.le_add_right _ _) hh1)
    have hl2 : ((ks.drop (lo + (i + 1))).take (hi' - lo)).length = hi' - lo := by rw [List.length_take, List.length_drop]; exact tk_off hle hh1
    clear hsz
    generalize (ks.drop lo).take (hi' - lo) = la at hA1 hl1 hal
    generalize (ks.drop (lo + (i + 1))).take (hi' - lo) = lb at hA2 hl2 hal
    generalize KBy.picked b (some (lo : Int)) (some (hi' : Int)) = pa at hA1 F8
    generalize KBy.picked b (some ((lo : Int) + ((i + 1 : Nat) : Int))) (some ((hi' : Int) + ((i + 1 : Nat) : Int))) = pb at hA2 F8
    generalize hpab : pa ++ pb = pab at F8
    have hab : KBw.bInts pab = la ++ lb := by rw [← hpab, ← hA1, ← hA2]; unfold KBw.bInts; rw [Array.toList_append, List.map_append]
    clear hA1 hA2
    have hlab : (la ++ lb).length = 2 * (hi' - lo) := by rw [List.length_append]; omega
    refine wpN_execs_cons (wpN_If (wpN_isTrue_Or2 ?_))
    k_steps
    · have hlh : lo = hi' := by omega
      have hA : Alike ks place (i + 1) := by
        rw [hal, List.eq_nil_of_length_eq_zero (l := la) (by omega), List.eq_nil_of_length_eq_zero (l := lb) (by omega)]
      rw [if_pos hA] at hst
      refine holdN_cons ?_
      k_steps
      refine ⟨?_⟩
      dsimp only
      show Q' _ _
      rw [← hP, hst] at hQ'
      exact hQ' _ _ _ _ F8 fun p hp => N8 p (List.mem_append_left _ hp)
    · have hlt : lo < hi' := by omega
      have hmul : (2 : Int) * ((hi' : Int) - (lo : Int)) = ((2 * (hi' - lo) : Nat) : Int) := by omega
      have hsub : ((hi' : Int) - (lo : Int)) = ((hi' - lo : Nat) : Int) := by omega
      refine wpN_isTrue_Compare1 (wpN_CallA (P := (hd.heap_39 w.params).In) (.ref 35) (wpAny_ofH ?_) (keeps_K (by k_is)))
      k_steps
      refine ⟨rfl, ?_⟩
      k_steps
      refine ⟨X'.keeps F8.keep, ?_⟩
      rw [hsub]
      k_dflt (refine' byteswap_ok w mean mg mb pab (la ++ lb) _ _ (hi' - lo) 2 (news ++ own) hab (by omega) hlab (by omega) (by omega) _ _ _ _ _ _ _ _ _ _ _ _ _ _ _ _ _ B' F8 X' N8 T' rfl ?_ ?_ ?_)
      · show dp + 1 + 1 < recursionLimit; omega
      · show un + 3 + 10 < cLine; omega
      intro r1 t3 h9 tk9 hs1 F9 N9
      refine wpN_CallA (P := (hd.heap_39 w.params).In) (.ref 35) (wpAny_ofH ?_) (keeps_K (by k_is))
      k_steps
      refine ⟨rfl, ?_⟩
      k_steps
      refine ⟨X'.keeps F9.keep, ?_⟩
      rw [hmul]
      k_dflt (refine' byteswap_ok w mean mg mb pab (la ++ lb) _ _ (2 * (hi' - lo)) 1 (news ++ own) hab (by omega) (by omega) (by omega) (by omega) _ _ _ _ _ _ _ _ _ _ _ _ _ _ _ _ _ B' F9 X' N9 T' rfl ?_ ?_ ?_)
      · show dp + 1 + 1 < recursionLimit; omega
      · show un + 3 + 10 < cLine; omega
      intro r2 t4 h10 tk10 hs2 F10 N10
      have hcmp : (r1.toList == r2.toList) = decide (Alike ks place (i + 1)) := by
        rw [bytes_eq_ints]
        exact decide_eq_decide.mpr ((swap_alike hl1 hl2 hs1 hs2).trans hal.symm)
      k_steps
      · rename ((_ == _) = true) => hab'
        rw [hcmp, decide_eq_true_eq] at hab'
        rw [if_pos hab'] at hst
        refine holdN_cons ?_
        k_steps
        refine ⟨?_⟩
        dsimp only
        show Q' _ _
        rw [← hP, hst] at hQ'
        exact hQ' _ _ _ _ F10 fun p hp => N10 p (List.mem_append_left _ hp)
      · rename ((_ == _) = false) => hab'
        rw [hcmp, decide_eq_false_iff_not] at hab'
        rw [if_neg hab'] at hst
        refine wpN_of (wpAny_execs_nil ?_)
        dsimp only
        refine wpN_of (wpAny_execs_nil ?_)
        refine kst_end () F10 N10 (fun p hp => List.mem_append_left _ hp) (fun p hp => List.mem_append_right _ hp) rfl trivial (fun _ h => nomatch h) ?_ (by rw [← hP, hst])
        intro z h1 h2 h3
        simp only [List.contains_cons, List.contains_nil, Bool.or_false, Bool.or_eq_false_iff, beq_eq_false_iff_ne, ne_eq] at h3
        simp [kstB, h1, h3]
  case done =>
    intro c u h tk hP F5 N5
    dsimp only
    refine holdN_cons ?_
    k_steps
    refine ⟨?_⟩
    dsimp only
    have e : reachN ks place 0 = 0 := by rw [← hP, reachN, if_neg (by omega)]
    rw [e] at hQ'
    exact hQ' _ _ _ _ F5 N5
end Mine
end

section
open PySem PySem.W PyProof.Rows PySem.Calls
set_option maxRecDepth 100000
namespace Mine
theorem call_cellsNN {prog : Program} {w : World} {A : Around} {R : Result → Shared → Prop} {s : Shared} {name : Str} {params : Arguments} {body : List Stmt} {scope : Scope}
    {pm cd doc : Value} {a : Addr} {o : Obj} {args : List Value} {binds : List (Str × Value)}
    (hroom : A.depth < recursionLimit) (ho : s.heap.get? a = some o) (hdata : o.data = .func (Calls.docDef name params body scope pm cd doc)) (hlim : s.heap.NoLimit) (hcd : s.heap.CodeRec cd name)
    (hbind : bindArgs (Calls.docDef name params body scope pm cd doc) ⟨args, []⟩ = pure binds)
    (hkind : ∀ x ∈ binds, scope.names.lookup x.1 = some .local ∨ (scope.names.lookup x.1 = some .cell ∧ ((cellsFrom (s.heap.objs.size + 1) scope.names []).lookup x.1).isSome = true))
    (hnd : ((cellsFrom 0 scope.names []).map (·.1)).Nodup)
    (h : ∀ h₁ tk cells, Fr s.heap s.heap.objs.size h₁ (bindL (envOfC name scope s.heap.objs.size a cd).kindOf binds fun _ => none) → News s.heap s.heap.objs.size h₁ cells →
      CellsAre (bindC (envOfC name scope s.heap.objs.size a cd).kindOf binds fun _ => none) (cellsFrom (s.heap.objs.size + 1) scope.names []) cells →
      wpN (model prog w) (A.deeper (envOfC name scope s.heap.objs.size a cd)) (execs body (envOfC name scope s.heap.objs.size a cd))
        (fun f s' => R (.ok (.ret (match f with | .ret v => v | _ => .none))) s')
        (fun e s' => wpAny (model prog w) (A.deeper (envOfC name scope s.heap.objs.size a cd)) (leaving (envOfC name scope s.heap.objs.size a cd) e)
          (fun _ s'' => R (.error e) s'') (fun e' s'' => R (.error e') s'') s')
        { s with heap := h₁, toks := tk })
    (hco : scope.isCoroutine = false := by rfl) (hgen : scope.isGenerator = false := by rfl) (hk : scope.kind = .function := by rfl) :
    codeN (model prog w) A (.call (.ref a) ⟨args, []⟩) R s := by
  refine codeN_call_function (fd := Calls.docDef name params body scope pm cd doc) (body := body) hroom ho hdata hco hgen rfl hcd ?_
  refine wpAny_of_eq hbind ?_
  refine wpAny_newFunctionEnv_cells hk hkind fun env' he s' x => ?_
  subst he
  refine ⟨hlim.keeps x.toInCall.keep, codeN_func ?_⟩
  obtain ⟨h₁, tk, rfl, _⟩ := x.done
  obtain ⟨cells, NC, Y⟩ := Cl.news (h₀ := s.heap) (Nat.le_refl _) fun n c hm => ⟨x.cell n c (lookup_of_mem_nodup (cellsFrom_names scope.names 0 (s.heap.objs.size + 1) [] [] rfl ▸ hnd) hm), x.above n c hm⟩
  exact h h₁ tk cells ⟨x.toInCall.ns, x.toInCall.keep, x.toInCall.fresh⟩ NC Y
end Mine
end

section
open PySem PySem.W PyProof.Rows
set_option maxRecDepth 100000
set_option maxHeartbeats 8000000
namespace Mine
example : PySem.Challenge.rw_ph0009_01 = PySem.Challenge.rw_ph0009_01 ∧ hd.heap_39 = hd.heap_39 := by
  k_fill; exact ⟨rfl, rfl⟩
local macro_rules | `(tactic| walk_at "eval ListComp") => `(tactic| refine Hold.out ?_)
local macro_rules | `(tactic| walk_at "call ref") => `(tactic| refine Hold.out ?_)
theorem collT_cases (x y : List Nat) : (collT x y = 0 ∧ x = y ∧ ¬ y < x ∧ ¬ x < y) ∨ (collT x y = 1 ∧ x ≠ y ∧ y < x ∧ ¬ x < y) ∨ (collT x y = -1 ∧ x ≠ y ∧ x < y ∧ ¬ y < x) := by
  unfold collT
  by_cases h1 : y < x
  · have h2 : ¬ x < y := fun h => List.lt_irrefl x (List.lt_trans h h1)
    refine .inr (.inl ⟨by simp [h1, h2, b2i], fun e => h2 (e ▸ h1), h1, h2⟩)
  · by_cases h2 : x < y
    · refine .inr (.inr ⟨by simp [h1, h2, b2i], fun e => h1 (e ▸ h2), h2, h1⟩)
    · have : x = y := List.le_antisymm (List.not_lt.mp h1) (List.not_lt.mp h2)
      exact .inl ⟨by simp [h1, h2, b2i], this, h1, h2⟩
theorem collT_swap (x y : List Nat) : collT y x = - collT x y := by unfold collT; omega
theorem collT_head {a b : Nat} {x y : List Nat} (h : a ≠ b) : collT (a :: x) (b :: y) = if a > b then 1 else -1 := by
  rcases collT_cases (a :: x) (b :: y) with ⟨_, e, _, _⟩ | ⟨e, _, h1, h2⟩ | ⟨e, _, h1, h2⟩
  · exact absurd (by injection e) h
  · rw [e]
    have : b < a := by
      rcases List.cons_lt_cons_iff.mp h1 with h' | ⟨h', _⟩
      · exact h'
      · exact absurd h'.symm h
    rw [if_pos this]
  · rw [e]
    have : a < b := by
      rcases List.cons_lt_cons_iff.mp h1 with h' | ⟨h', _⟩
      · exact h'
      · exact absurd h' h
    rw [if_neg (by omega)]
theorem headE {ks : List Int} (hr : ∀ k ∈ ks, 0 ≤ k ∧ k < 256) {i j : Nat} (hi : i < ks.length) (hj : j < ks.length) (h : ks.getD i 0 ≠ ks.getD j 0) :
    collT ((ks.map Int.toNat).drop i) ((ks.map Int.toNat).drop j) = if ks.getD i 0 > ks.getD j 0 then 1 else -1 := by
  have e : ∀ {i : Nat}, i < ks.length → (ks.map Int.toNat).drop i = (ks.getD i 0).toNat :: (ks.map Int.toNat).drop (i + 1) := by
    intro i hi
    rw [List.drop_eq_getElem_cons (by rw [List.length_map]; exact hi), List.getElem_map, List.getD_eq_getElem?_getD, List.getElem?_eq_getElem hi]
    rfl
  have g : ∀ {i : Nat}, i < ks.length → 0 ≤ ks.getD i 0 := by
    intro i hi
    rw [List.getD_eq_getElem?_getD, List.getElem?_eq_getElem hi]
    exact (hr _ (List.getElem_mem hi)).1
  have g1 := g hi
  have g2 := g hj
  rw [e hi, e hj, collT_head (by omega)]
  by_cases h1 : ks.getD i 0 > ks.getD j 0
  · rw [if_pos h1, if_pos (by omega)]
  · rw [if_neg h1, if_neg (by omega)]
theorem itemE {ks : List Int} {xx : Str} (hr : ∀ k ∈ ks, 0 ≤ k ∧ k < 256) (hxx : xx.cps.toList = ks.map Int.toNat) {i j : Nat} (hi : i < ks.length) (hj : j < ks.length) :
    collT (Txt.item xx (i : Int)).cps.toList (Txt.item xx (j : Int)).cps.toList = if ks.getD i 0 = ks.getD j 0 then 0 else if ks.getD i 0 > ks.getD j 0 then 1 else -1 := by
  have hxl : xx.length = ks.length := by show xx.cps.size = _; rw [← Array.length_toList, hxx, List.length_map]
  have e : ∀ {i : Nat}, i < ks.length → (Txt.item xx (i : Int)).cps.toList = [(ks.getD i 0).toNat] := by
    intro i hi
    rw [item_meets ⟨by omega, by omega⟩]
    show [_] = _
    have : xx.cps.getD i 0 = (ks.getD i 0).toNat := by
      rw [Array.getD_eq_getD_getElem?, ← Array.getElem?_toList, hxx, List.getElem?_map, List.getD_eq_getElem?_getD, List.getElem?_eq_getElem hi]
      rfl
    rw [← this]; rfl
  have g : ∀ {i : Nat}, i < ks.length → 0 ≤ ks.getD i 0 := by
    intro i hi
    rw [List.getD_eq_getElem?_getD, List.getElem?_eq_getElem hi]
    exact (hr _ (List.getElem_mem hi)).1
  have g1 := g hi
  have g2 := g hj
  rw [e hi, e hj]
  by_cases h : ks.getD i 0 = ks.getD j 0
  · rw [if_pos h, h]
    rcases collT_cases [(ks.getD j 0).toNat] [(ks.getD j 0).toNat] with h | h | h
    · exact h.1
    · exact absurd rfl h.2.1
    · exact absurd rfl h.2.1
  · rw [if_neg h, collT_head (by omega)]
    by_cases h1 : ks.getD i 0 > ks.getD j 0
    · rw [if_pos h1, if_pos (by omega)]
    · rw [if_neg h1, if_neg (by omega)]
theorem drop_ne {x : List Nat} {i j : Nat} (hi : i < x.length) (hj : j < x.length) : x.drop i = x.drop j ↔ i = j := by
  constructor
  · intro h
    have := congrArg List.length h
    rw [List.length_drop, List.length_drop] at this
    omega
  · rintro rfl; rfl
theorem item_news {prog : Program} {w : World} {A : Around} {E : Value → Shared → Prop} {s : Shared} {h₀ : Heap} {L : Addr} {nw : List (Addr × Obj)} {value slice : PySem.Expr} {l : Addr} {vs : List Value} {nl : Nat} {ks : List Int} {i : Nat} {u : Tok} {Q : Value → Shared → Prop}
    (N : News h₀ L s.heap nw) (hm : (l, ({ cls := .type "list", data := .seq (vs : List Value).toArray nl } : Obj)) ∈ nw) (hi : IntsAre vs ks) (hz : ks.length ≤ 1000) (h0 : i < ks.length) (h : ∀ t, Q (.int (ks.getD i 0) t) s)
    (hs : subscripted slice false (.ref l) (.int (i : Int) u) = operate [.ref l, .int (i : Int) u] (getItem (.ref l) (.int (i : Int) u)) := by with_unfolding_all rfl) :
    wpAny (model prog w) A (subscriptTail value slice (.ref l) (.int (i : Int) u)) Q E s := by
  have hl : s.heap.IsList l vs.toArray := News.isList N hm
  have hlen := hi.length
  obtain ⟨v, hv⟩ : ∃ v, vs[i]? = some v := ⟨vs[i], List.getElem?_eq_getElem (by omega)⟩
  obtain ⟨k, t, rfl, hk⟩ := IntsAre.at hi i v hv
  have : k = ks.getD i 0 := by rw [List.getD_eq_getElem?_getD, hk]; rfl
  subst this
  exact tail_any hl.typeIs slot_list_getitem.lookup (wpAny_getItem_list hl (by omega) (by omega) (by simpa using hv) (h t)) hs
local macro_rules | `(tactic| walk_at "subscriptTail") => `(tactic| ((with_reducible show wpAny _ _ (subscriptTail _ _ (Value.ref _) (Value.int _ _)) _ _ _); refine Hold.out ?_))
theorem unlike_ok (w : World) (mean : ExcName → Option Value) (mg mb : Str → Option Value) (l : Addr) (vs : List Value) (nl : Nat) (ks : List Int) (news : List (Addr × Obj)) (hl : (l, ({ cls := .type "list", data := .seq (vs : List Value).toArray nl } : Obj)) ∈ news) (hi : IntsAre vs ks) (hr : ∀ k ∈ ks, 0 ≤ k ∧ k < 256) (hz : ks.length ≤ 1000) :
  CtrV w mean mg mb 2 69 news [.ref l] (fun _ => .bool false) := by
  intro dp un gd cn cs a ccd cl outer A₀ base h₀ L m s Q E hB hF hK hN hT hk hdp hun hret
  refine wpAny_call ?_
  k_dflt (refine' code_def ?k1 ?k2 ?k3 ?k4 ?k5 ?kA ?kF ?kK ?k6 ?k7 ?k8 ?k9 ?kB ?_ ?c2 ?c3 ?c4 ?c5; (case kA => exact rfl); (case kF => exact rfl); (case kK => assumption); (case k1 => k_asm); (case k2 => k_asm); (case k3 => k_asm); (case k4 => k_asm); (case k5 => k_asm); (case k6 => k_is); (case k7 => k_is); (case k8 => ktr_room); (case k9 => exact BindsTo.of_eq rfl); (case c5 => decide); (case kB => exact locs rfl); (case c2 => exact rfl); (case c3 => exact rfl); (case c4 => exact rfl); k_whole; intro g' L' h' FG' F1 N1 B' X' T'; (try dsimp only))
  refine wpAny_body (fun Q' => ∀ (h2 : Heap) (tk : Nat) (m2 : Str → Option Value), Fr g' L' h2 m2 → News g' L' h2 news → Q' (.ret (.bool false)) { s with heap := h2, toks := tk }) ?_ (by passes_own) ?_
  · exact fun h2 tk m2 F2 N2 => leaveK_ F2 N2 fun kF kN => hret 0 h2 tk kF kN
  intro Q' E' hQ' hE'
  refine hold_cons ?_
  k_steps
  refine ⟨cut_list F1 (fun ys => ys.length = ks.length ∧ ∀ (i : Nat) (y : Value), ys[i]? = some y → ∃ t k, ks[i]? = some k ∧ y = .str ⟨#[k.toNat]⟩ t) news ?h1 ?h2⟩
  case h1 =>
    intro Q'' E'' hQ''
    refine LCg.ListComp_U F1 rfl (by decide) rfl (by decide) rfl (wpAny_ofH ?_)
    k_steps
    refine ⟨LCg.CompSrc.ledger rfl F1 N1 hl (by rw [List.size_toArray, hi.length, sizeLine_eq]; omega) fun g => ?_⟩
    refine rest_each (fun i y => ∃ t k, ks[i]? = some k ∧ y = .str ⟨#[k.toNat]⟩ t) ?turn2 (fun ys hlen hG D h tk F2 N2 ho => hQ'' D ys h tk ⟨by rw [hlen, List.size_toArray, hi.length], hG⟩ F2 N2 ho)
    intro i v I oI C oC D m₂ ys h tk E' hi' hv hC hx F N off ne
    obtain ⟨k, t, rfl, hk'⟩ := IntsAre.at hi i v (by simpa using hv)
    obtain ⟨hm0, hm1⟩ := hr _ (List.mem_of_getElem? hk')
    refine wpAny_ofH ?_
    k_steps
    exact ⟨⟨h, _, news, rfl, F, N, off, .inr ⟨_, hl, rfl, _, rfl⟩, rfl, _, _, hk', rfl⟩⟩
  case h2 =>
    intro D ys h tk ⟨hyl, hG⟩ F2 N2 ho
    k_steps
    rename Fr _ _ _ _ => F3
    rename News _ _ _ _ => N3
    refine join_listC (News.isList N3 (.head _)) (strs_of hyl hG) (by decide +kernel) ?hok fun t' k' => ?_
    case hok => rw [ones_len, List.length_map]; omega
    generalize hx : Txt.join (Str.ofString "") (ks.map fun k => (⟨#[k.toNat]⟩ : Str)) = xx
    have hxx : xx.cps.toList = ks.map Int.toNat := by rw [← hx]; exact join_ones ks
    have hxl : xx.length = ks.length := by show xx.cps.size = _; rw [← Array.length_toList, hxx, List.length_map]
    k_steps
    refine ⟨hold_cons ?_⟩
    rename Fr _ _ _ _ => F4
    rename News _ _ _ _ => N4
    refine for_rng (σ := Unit) (a := 0) (st := 1) (n := ks.length) (fun _ => (D, LCg.lst ys) :: news) (fun _ => []) ["two", "due", "told"] (fun _ _ => True) () F4 rfl rfl rfl (wpAny_ofH ?hit) (fun _ h => nomatch h) trivial ?trn ?done hE'
    case hit =>
      k_steps
      rename Fr _ _ _ _ => F5
      rename News _ _ _ _ => N5
      rename IsRange _ _ _ _ _ _ _ _ => hr
      exact ⟨⟨_, _, _, _, _, _, _, rfl, rfl, hr, small_one (by omega) (by omega) (by omega) (by omega), by rw [rangeSize_nat]; omega, F5, N5⟩⟩
    case trn =>
      intro _ i t u h tk own hi1 hoff _ F5 N5
      have e1 : (0 + (i : Int) * 1) = (i : Int) := by omega
      rw [e1] at F5
      dsimp only at F5 N5
      refine hold_cons ?_
      refine for_rng (σ := Unit) (a := 0) (st := 1) (n := ks.length) (fun _ => (D, LCg.lst ys) :: (news ++ own)) (fun _ => []) ["due", "told"] (fun _ _ => True) () F5 rfl rfl rfl (wpAny_ofH ?hit2) (fun _ h => nomatch h) trivial ?trn2 ?done2 hE'
      case hit2 =>
        k_steps
        rename Fr _ _ _ _ => F6
        rename News _ _ _ _ => N6
        rename IsRange _ _ _ _ _ _ _ _ => hr
        exact ⟨⟨_, _, _, _, _, _, _, rfl, rfl, hr, small_one (by omega) (by omega) (by omega) (by omega), by rw [rangeSize_nat]; omega, F6, N6⟩⟩
      case trn2 =>
        intro _ j t' u' h' tk' own' hj hoff' _ F6 N6
        have e1 : (0 + (j : Int) * 1) = (j : Int) := by omega
        rw [e1] at F6
        simp only [List.cons_append, List.append_assoc] at N6
        have hio : ks[i]? = some (ks.getD i 0) := by rw [List.getD_eq_getElem?_getD, List.getElem?_eq_getElem hi1]; rfl
        have hjo : ks[j]? = some (ks.getD j 0) := by rw [List.getD_eq_getElem?_getD, List.getElem?_eq_getElem hj]; rfl
        have hmm : (l, ({ cls := .type "list", data := .seq (vs : List Value).toArray nl } : Obj)) ∈ ((D, LCg.lst ys) :: (news ++ (own ++ own'))) := .tail _ (List.mem_append_left _ hl)
        have hdue : ∃ d : Int, (d = 0 ∨ d = 1 ∨ d = -1) ∧ (d = 0 ↔ ks.getD i 0 = ks.getD j 0) ∧ (d = 1 ↔ ks.getD i 0 > ks.getD j 0) ∧ (d = -1 ↔ ks.getD i 0 < ks.getD j 0) := by
          rcases Int.lt_trichotomy (ks.getD i 0) (ks.getD j 0) with h | h | h
          · exact ⟨-1, by omega, by omega, by omega, by omega⟩
          · exact ⟨0, by omega, by omega, by omega, by omega⟩
          · exact ⟨1, by omega, by omega, by omega, by omega⟩
        obtain ⟨due, hd0, hd1, hd2, hd3⟩ := hdue
        refine hold_cons ?_
        rcases hd0 with rfl | rfl | rfl
        · have hq := hd1.mp rfl
          clear hd1 hd2 hd3
          k_steps
          refine ⟨item_news N6 hmm hi hz hi1 fun t1 => ?_⟩
          k_steps
          refine ⟨item_news N6 hmm hi hz hj fun t2 => ?_⟩
          k_steps
          all_goals try (exfalso; omega)
          refine ⟨hold_cons ?_⟩
          k_steps
          refine ⟨?_⟩
          rename Fr _ _ _ _ => F7
          rename News _ _ _ _ => N7
          k_dflt (refine' useV (strcoll_ok w mean mg mb _ _ _ _ _) B' F7 X' N7 T' rfl ?_ ?_ ?_)
          · show dp + 1 + 1 < recursionLimit; omega
          · show un + 3 + 10 * 1 < cLine; omega
          intro t3 h8 tk8 F8 N8
          rw [slice_drop (by omega), slice_drop (by omega), hxx]
          have hcc := collT_cases ((ks.map Int.toNat).drop i) ((ks.map Int.toNat).drop j)
          have hsw := collT_swap ((ks.map Int.toNat).drop i) ((ks.map Int.toNat).drop j)
          simp only [ne_eq, drop_ne (x := ks.map Int.toNat) (i := i) (j := j) (by rw [List.length_map]; exact hi1) (by rw [List.length_map]; exact hj)] at hcc
          have hcc' : (collT ((ks.map Int.toNat).drop i) ((ks.map Int.toNat).drop j) = 0 ∧ i = j) ∨ (collT ((ks.map Int.toNat).drop i) ((ks.map Int.toNat).drop j) = 1 ∧ i ≠ j) ∨ (collT ((ks.map Int.toNat).drop i) ((ks.map Int.toNat).drop j) = -1 ∧ i ≠ j) := by
            rcases hcc with h | h | h
            · exact .inl ⟨h.1, h.2.1⟩
            · exact .inr (.inl ⟨h.1, h.2.1⟩)
            · exact .inr (.inr ⟨h.1, h.2.1⟩)
          clear hcc
          rcases hcc' with ⟨hE, hij⟩ | ⟨hE, hij⟩ | ⟨hE, hij⟩
          · rw [hE]
            rw [hE] at hsw
            k_steps
            all_goals try (exfalso; omega)
            refine ⟨hold_cons ?_⟩
            k_steps
            all_goals try (exfalso; omega)
            all_goals try (rename ((_ != _) = true) => hb; exfalso; simp at hb; omega)
            refine ⟨hold_cons ?_⟩
            k_steps
            refine ⟨?_⟩
            rename Fr _ _ _ _ => F9
            rename News _ _ _ _ => N9
            k_dflt (refine' useV (strcoll_ok w mean mg mb _ _ _ _ _) B' F9 X' N9 T' rfl ?_ ?_ ?_)
            · show dp + 1 + 1 < recursionLimit; omega
            · show un + 3 + 10 * 1 < cLine; omega
            intro t4 h10 tk10 F10 N10
            rw [slice_drop (by omega), slice_drop (by omega), hxx, hsw]
            k_steps
            all_goals try (exfalso; omega)
            refine ⟨?_⟩
            rename Fr _ _ _ _ => F11
            rename News _ _ _ _ => N11
            k_dflt (refine' useV (strcoll_ok w mean mg mb _ _ _ _ _) B' F11 X' N11 T' rfl ?_ ?_ ?_)
            · show dp + 1 + 1 < recursionLimit; omega
            · show un + 3 + 10 * 1 < cLine; omega
            intro t5 h12 tk12 F12 N12
            rw [itemE hr hxx hi1 hj, if_pos hq]
            k_steps
            all_goals try (exfalso; omega)
            refine ⟨wpAny_execs_nil ?_⟩
            refine kst_end () F12 N12 ?_ ?_ rfl trivial (fun _ h => nomatch h) ?_ trivial
            · intro p hp
              simp only [List.mem_cons, List.mem_append] at hp ⊢
              rcases hp with h | h | h <;> simp [h]
            · intro p hp
              simp only [List.mem_cons, List.mem_append]
              simp [hp]
            · (intro z h1 h2 h3; (try simp only [List.contains_cons, List.contains_nil, Bool.or_false, Bool.or_eq_false_iff, beq_eq_false_iff_ne, ne_eq] at h3); simp [kstB, h1, h3])
          · rw [hE]
            rw [hE] at hsw
            k_steps
            all_goals try (exfalso; omega)
            refine ⟨hold_cons ?_⟩
            k_steps
            all_goals try (exfalso; omega)
            all_goals try (rename ((_ != _) = true) => hb; exfalso; simp at hb; omega)
            refine ⟨hold_cons ?_⟩
            k_steps
            refine ⟨?_⟩
            rename Fr _ _ _ _ => F9
            rename News _ _ _ _ => N9
            k_dflt (refine' useV (strcoll_ok w mean mg mb _ _ _ _ _) B' F9 X' N9 T' rfl ?_ ?_ ?_)
            · show dp + 1 + 1 < recursionLimit; omega
            · show un + 3 + 10 * 1 < cLine; omega
            intro t4 h10 tk10 F10 N10
            rw [slice_drop (by omega), slice_drop (by omega), hxx, hsw]
            k_steps
            all_goals try (exfalso; omega)
            refine ⟨?_⟩
            rename Fr _ _ _ _ => F11
            rename News _ _ _ _ => N11
            k_dflt (refine' useV (strcoll_ok w mean mg mb _ _ _ _ _) B' F11 X' N11 T' rfl ?_ ?_ ?_)
            · show dp + 1 + 1 < recursionLimit; omega
            · show un + 3 + 10 * 1 < cLine; omega
            intro t5 h12 tk12 F12 N12
            rw [itemE hr hxx hi1 hj, if_pos hq]
            k_steps
            all_goals try (exfalso; omega)
            refine ⟨wpAny_execs_nil ?_⟩
            refine kst_end () F12 N12 ?_ ?_ rfl trivial (fun _ h => nomatch h) ?_ trivial
            · intro p hp
              simp only [List.mem_cons, List.mem_append] at hp ⊢
              rcases hp with h | h | h <;> simp [h]
            · intro p hp
              simp only [List.mem_cons, List.mem_append]
              simp [hp]
            · (intro z h1 h2 h3; (try simp only [List.contains_cons, List.contains_nil, Bool.or_false, Bool.or_eq_false_iff, beq_eq_false_iff_ne, ne_eq] at h3); simp [kstB, h1, h3])
          · rw [hE]
            rw [hE] at hsw
            k_steps
            all_goals try (exfalso; omega)
            refine ⟨hold_cons ?_⟩
            k_steps
            all_goals try (exfalso; omega)
            all_goals try (rename ((_ != _) = true) => hb; exfalso; simp at hb; omega)
            refine ⟨hold_cons ?_⟩
            k_steps
            refine ⟨?_⟩
            rename Fr _ _ _ _ => F9
            rename News _ _ _ _ => N9
            k_dflt (refine' useV (strcoll_ok w mean mg mb _ _ _ _ _) B' F9 X' N9 T' rfl ?_ ?_ ?_)
            · show dp + 1 + 1 < recursionLimit; omega
            · show un + 3 + 10 * 1 < cLine; omega
            intro t4 h10 tk10 F10 N10
            rw [slice_drop (by omega), slice_drop (by omega), hxx, hsw]
            k_steps
            all_goals try (exfalso; omega)
            refine ⟨?_⟩
            rename Fr _ _ _ _ => F11
            rename News _ _ _ _ => N11
            k_dflt (refine' useV (strcoll_ok w mean mg mb _ _ _ _ _) B' F11 X' N11 T' rfl ?_ ?_ ?_)
            · show dp + 1 + 1 < recursionLimit; omega
            · show un + 3 + 10 * 1 < cLine; omega
            intro t5 h12 tk12 F12 N12
            rw [itemE hr hxx hi1 hj, if_pos hq]
            k_steps
            all_goals try (exfalso; omega)
            refine ⟨wpAny_execs_nil ?_⟩
            refine kst_end () F12 N12 ?_ ?_ rfl trivial (fun _ h => nomatch h) ?_ trivial
            · intro p hp
              simp only [List.mem_cons, List.mem_append] at hp ⊢
              rcases hp with h | h | h <;> simp [h]
            · intro p hp
              simp only [List.mem_cons, List.mem_append]
              simp [hp]
            · (intro z h1 h2 h3; (try simp only [List.contains_cons, List.contains_nil, Bool.or_false, Bool.or_eq_false_iff, beq_eq_false_iff_ne, ne_eq] at h3); simp [kstB, h1, h3])
        · have hq := hd2.mp rfl
          clear hd1 hd2 hd3
          k_steps
          refine ⟨item_news N6 hmm hi hz hi1 fun t1 => ?_⟩
          k_steps
          refine ⟨item_news N6 hmm hi hz hj fun t2 => ?_⟩
          k_steps
          all_goals try (exfalso; omega)
          refine ⟨item_news N6 hmm hi hz hi1 fun t1 => ?_⟩
          k_steps
          refine ⟨item_news N6 hmm hi hz hj fun t2 => ?_⟩
          k_steps
          all_goals try (exfalso; omega)
          refine ⟨hold_cons ?_⟩
          k_steps
          refine ⟨?_⟩
          rename Fr _ _ _ _ => F7
          rename News _ _ _ _ => N7
          k_dflt (refine' useV (strcoll_ok w mean mg mb _ _ _ _ _) B' F7 X' N7 T' rfl ?_ ?_ ?_)
          · show dp + 1 + 1 < recursionLimit; omega
          · show un + 3 + 10 * 1 < cLine; omega
          intro t3 h8 tk8 F8 N8
          rw [slice_drop (by omega), slice_drop (by omega), hxx]
          have hsw := collT_swap ((ks.map Int.toNat).drop i) ((ks.map Int.toNat).drop j)
          have hE := headE hr hi1 hj (by omega)
          rw [if_pos (by omega)] at hE
          have hij : i ≠ j := by rintro rfl; omega
          rw [hE]
          rw [hE] at hsw
          k_steps
          all_goals try (exfalso; omega)
          refine ⟨hold_cons ?_⟩
          k_steps
          all_goals try (exfalso; omega)
          all_goals try (rename ((_ != _) = true) => hb; exfalso; simp at hb; omega)
          refine ⟨hold_cons ?_⟩
          k_steps
          refine ⟨?_⟩
          rename Fr _ _ _ _ => F9
          rename News _ _ _ _ => N9
          k_dflt (refine' useV (strcoll_ok w mean mg mb _ _ _ _ _) B' F9 X' N9 T' rfl ?_ ?_ ?_)
          · show dp + 1 + 1 < recursionLimit; omega
          · show un + 3 + 10 * 1 < cLine; omega
          intro t4 h10 tk10 F10 N10
          rw [slice_drop (by omega), slice_drop (by omega), hxx, hsw]
          k_steps
          all_goals try (exfalso; omega)
          refine ⟨?_⟩
          rename Fr _ _ _ _ => F11
          rename News _ _ _ _ => N11
          k_dflt (refine' useV (strcoll_ok w mean mg mb _ _ _ _ _) B' F11 X' N11 T' rfl ?_ ?_ ?_)
          · show dp + 1 + 1 < recursionLimit; omega
          · show un + 3 + 10 * 1 < cLine; omega
          intro t5 h12 tk12 F12 N12
          rw [itemE hr hxx hi1 hj, if_neg (by omega), if_pos (by omega)]
          k_steps
          all_goals try (exfalso; omega)
          refine ⟨wpAny_execs_nil ?_⟩
          refine kst_end () F12 N12 ?_ ?_ rfl trivial (fun _ h => nomatch h) ?_ trivial
          · intro p hp
            simp only [List.mem_cons, List.mem_append] at hp ⊢
            rcases hp with h | h | h <;> simp [h]
          · intro p hp
            simp only [List.mem_cons, List.mem_append]
            simp [hp]
          · (intro z h1 h2 h3; (try simp only [List.contains_cons, List.contains_nil, Bool.or_false, Bool.or_eq_false_iff, beq_eq_false_iff_ne, ne_eq] at h3); simp [kstB, h1, h3])
        · have hq := hd3.mp rfl
          clear hd1 hd2 hd3
          k_steps
          refine ⟨item_news N6 hmm hi hz hi1 fun t1 => ?_⟩
          k_steps
          refine ⟨item_news N6 hmm hi hz hj fun t2 => ?_⟩
          k_steps
          all_goals try (exfalso; omega)
          refine ⟨item_news N6 hmm hi hz hi1 fun t1 => ?_⟩
          k_steps
          refine ⟨item_news N6 hmm hi hz hj fun t2 => ?_⟩
          k_steps
          all_goals try (exfalso; omega)
          refine ⟨hold_cons ?_⟩
          k_steps
          refine ⟨?_⟩
          rename Fr _ _ _ _ => F7
          rename News _ _ _ _ => N7
          k_dflt (refine' useV (strcoll_ok w mean mg mb _ _ _ _ _) B' F7 X' N7 T' rfl ?_ ?_ ?_)
          · show dp + 1 + 1 < recursionLimit; omega
          · show un + 3 + 10 * 1 < cLine; omega
          intro t3 h8 tk8 F8 N8
          rw [slice_drop (by omega), slice_drop (by omega), hxx]
          have hsw := collT_swap ((ks.map Int.toNat).drop i) ((ks.map Int.toNat).drop j)
          have hE := headE hr hi1 hj (by omega)
          rw [if_neg (by omega)] at hE
          have hij : i ≠ j := by rintro rfl; omega
          rw [hE]
          rw [hE] at hsw
          k_steps
          all_goals try (exfalso; omega)
          refine ⟨hold_cons ?_⟩
          k_steps
          all_goals try (exfalso; omega)
          all_goals try (rename ((_ != _) = true) => hb; exfalso; simp at hb; omega)
          refine ⟨hold_cons ?_⟩
          k_steps
          refine ⟨?_⟩
          rename Fr _ _ _ _ => F9
          rename News _ _ _ _ => N9
          k_dflt (refine' useV (strcoll_ok w mean mg mb _ _ _ _ _) B' F9 X' N9 T' rfl ?_ ?_ ?_)
          · show dp + 1 + 1 < recursionLimit; omega
          · show un + 3 + 10 * 1 < cLine; omega
          intro t4 h10 tk10 F10 N10
          rw [slice_drop (by omega), slice_drop (by omega), hxx, hsw]
          k_steps
          all_goals try (exfalso; omega)
          refine ⟨?_⟩
          rename Fr _ _ _ _ => F11
          rename News _ _ _ _ => N11
          k_dflt (refine' useV (strcoll_ok w mean mg mb _ _ _ _ _) B' F11 X' N11 T' rfl ?_ ?_ ?_)
          · show dp + 1 + 1 < recursionLimit; omega
          · show un + 3 + 10 * 1 < cLine; omega
          intro t5 h12 tk12 F12 N12
          rw [itemE hr hxx hi1 hj, if_neg (by omega), if_neg (by omega)]
          k_steps
          all_goals try (exfalso; omega)
          refine ⟨wpAny_execs_nil ?_⟩
          refine kst_end () F12 N12 ?_ ?_ rfl trivial (fun _ h => nomatch h) ?_ trivial
          · intro p hp
            simp only [List.mem_cons, List.mem_append] at hp ⊢
            rcases hp with h | h | h <;> simp [h]
          · intro p hp
            simp only [List.mem_cons, List.mem_append]
            simp [hp]
          · (intro z h1 h2 h3; (try simp only [List.contains_cons, List.contains_nil, Bool.or_false, Bool.or_eq_false_iff, beq_eq_false_iff_ne, ne_eq] at h3); simp [kstB, h1, h3])
      case done2 =>
        intro _ u' h' tk' _ F6 N6
        refine ⟨wpAny_execs_nil ?_⟩
        refine kst_end () F6 N6 ?_ ?_ rfl trivial (fun _ h => nomatch h) ?_ trivial
        · intro p hp
          simp only [List.mem_cons, List.mem_append] at hp ⊢
          rcases hp with h | h <;> simp [h]
        · intro p hp
          simp only [List.mem_cons, List.mem_append]
          simp [hp]
        · (intro z h1 h2 h3; (try simp only [List.contains_cons, List.contains_nil, Bool.or_false, Bool.or_eq_false_iff, beq_eq_false_iff_ne, ne_eq] at h3); simp [kstB, h1, h3])
    case done =>
      intro _ u h tk _ F5 N5
      refine ⟨?_⟩
      dsimp only
      k_steps
      exact hQ' _ _ _ F5 (fun p hp => N5 p (.tail _ hp))
end Mine
end

section
open PySem PySem.W PyProof.Rows PySem.Calls
set_option maxRecDepth 100000
namespace Mine
section
variable {prog : Program} {w : World} {A : Around} {E : Value → Shared → Prop} {s : Shared} {h₀ : Heap} {L : Addr} {m : Str → Option Value} {env : Env} {ct elt : Expr} {x : Str} {scope : Scope} {cl : List (Str × Addr)} {S : List (Addr × Obj) → Prop} {P : Nat → Value → Prop} {Fin : List Value → List (Addr × Obj) → Prop} {news : List (Addr × Obj)}
/-- the elements one by one, with a word on what is made so far; each leaves the ledger as it was -/
theorem rest_eachJ {n : Nat} (J : Nat → List Value → Prop) (h0 : J 0 [])
    (turn : ∀ i v I oI C oC D m₂ ys h tk (E' : Value → Shared → Prop), i < n → J i ys → P i v → LCg.NsObj oC m₂ → m₂ x = some v → Fr h₀ L h m → News h₀ L h ((I, oI) :: (C, oC) :: (D, LCg.lst ys) :: news) → LCg.Off3 I C D news → ((@Ne Nat I C) ∧ (@Ne Nat I D) ∧ (@Ne Nat C D)) →
      wpAny (model prog w) A (eval elt (compEnvC scope cl C env)) (LCg.CompEnd h₀ L m { s with heap := h, toks := tk } I oI C oC D (LCg.lst ys) S (fun y news' => news' = news ∧ J (i + 1) (ys ++ [y]))) E' { s with heap := h, toks := tk })
    (fin : ∀ ys : List Value, J n ys → Fin ys news) : LCg.CompRest prog w A h₀ L m env elt x scope cl s S P Fin n 0 [] news := by
  have key : ∀ (j i : Nat) (ys : List Value), i + j = n → J i ys → LCg.CompRest prog w A h₀ L m env elt x scope cl s S P Fin j i ys news := by
    intro j
    induction j with
    | zero =>
      intro i ys hi hJ
      obtain rfl : i = n := by omega
      exact LCg.CompRest.zero (fin ys hJ)
    | succ j ih =>
      intro i ys hi hJ
      refine LCg.CompRest.succ ?_
      intro v I oI C oC D m₂ h tk E' hv hC hx F N off ne
      refine wpAny_mono (turn i v I oI C oC D m₂ ys h tk E' (by omega) hJ hv hC hx F N off ne) (fun y s₂ hq => ?_) fun _ _ e => e
      obtain ⟨h', tk', nw, e, F', N', off', hS, hn, hG⟩ := hq
      subst hn
      exact ⟨h', tk', nw, e, F', N', off', hS, ih (i + 1) _ (by omega) hG⟩
  exact key n 0 [] (by omega) h0
/-- the same, with a test -/
theorem rest_eachT {n : Nat} (J : Nat → List Value → Prop) (h0 : J 0 [])
    (turn : ∀ i v I oI C oC D m₂ ys h tk (E' : Value → Shared → Prop), i < n → J i ys → P i v → LCg.NsObj oC m₂ → m₂ x = some v → Fr h₀ L h m → News h₀ L h ((I, oI) :: (C, oC) :: (D, LCg.lst ys) :: news) → LCg.Off3 I C D news → ((@Ne Nat I C) ∧ (@Ne Nat I D) ∧ (@Ne Nat C D)) →
      wpAny (model prog w) A (isTrue ct (compEnvC scope cl C env) (eval ct (compEnvC scope cl C env))) (fun ok s' => if ok = true then
        wpAny (model prog w) A (eval elt (compEnvC scope cl C env)) (LCg.CompEnd h₀ L m { s with heap := h, toks := tk } I oI C oC D (LCg.lst ys) S (fun y news' => news' = news ∧ J (i + 1) (ys ++ [y]))) E' s'
        else LCg.CompEnd h₀ L m { s with heap := h, toks := tk } I oI C oC D (LCg.lst ys) S (fun _ news' => news' = news ∧ J (i + 1) ys) Value.none s') E' { s with heap := h, toks := tk })
    (fin : ∀ ys : List Value, J n ys → Fin ys news) : LCt.CompRestT prog w A h₀ L m env ct elt x scope cl s S P Fin n 0 [] news := by
  have key : ∀ (j i : Nat) (ys : List Value), i + j = n → J i ys → LCt.CompRestT prog w A h₀ L m env ct elt x scope cl s S P Fin j i ys news := by
    intro j
    induction j with
    | zero =>
      intro i ys hi hJ
      obtain rfl : i = n := by omega
      exact LCt.CompRestT.zero (fin ys hJ)
    | succ j ih =>
      intro i ys hi hJ
      refine LCt.CompRestT.succ ?_
      intro v I oI C oC D m₂ h tk E' hv hC hx F N off ne
      refine wpAny_mono (turn i v I oI C oC D m₂ ys h tk E' (by omega) hJ hv hC hx F N off ne) (fun ok s₂ hq => ?_) fun _ _ e => e
      cases ok with
      | true =>
        rw [if_pos rfl] at hq ⊢
        refine wpAny_mono hq (fun y s₃ hq => ?_) fun _ _ e => e
        obtain ⟨h', tk', nw, e, F', N', off', hS, hn, hG⟩ := hq
        subst hn
        exact ⟨h', tk', nw, e, F', N', off', hS, ih (i + 1) _ (by omega) hG⟩
      | false =>
        rw [if_neg Bool.false_ne_true] at hq ⊢
        obtain ⟨h', tk', nw, e, F', N', off', hS, hn, hG⟩ := hq
        subst hn
        exact ⟨h', tk', nw, e, F', N', off', hS, ih (i + 1) _ (by omega) hG⟩
  exact key n 0 [] (by omega) h0
end
end Mine
namespace Mine
section
variable {prog : Program} {w : World} {A : Around} {E : Value → Shared → Prop} {s : Shared} {h₀ : Heap} {L : Addr} {m : Str → Option Value} {env : Env} {ct elt : Expr} {x : Str} {scope : Scope} {cl : List (Str × Addr)} {S : List (Addr × Obj) → Prop} {P : Nat → Value → Prop} {Fin : List Value → List (Addr × Obj) → Prop} {news : List (Addr × Obj)}
/-- elements that are ints within bounds -/
theorem rest_ints {n : Nat} (lo hi : Int)
    (turn : ∀ i v I oI C oC D m₂ ys h tk (E' : Value → Shared → Prop), i < n → P i v → LCg.NsObj oC m₂ → m₂ x = some v → Fr h₀ L h m → News h₀ L h ((I, oI) :: (C, oC) :: (D, LCg.lst ys) :: news) → LCg.Off3 I C D news → ((@Ne Nat I C) ∧ (@Ne Nat I D) ∧ (@Ne Nat C D)) →
      wpAny (model prog w) A (eval elt (compEnvC scope cl C env)) (LCg.CompEnd h₀ L m { s with heap := h, toks := tk } I oI C oC D (LCg.lst ys) S (fun y news' => news' = news ∧ ∃ k t, y = .int k t ∧ lo ≤ k ∧ k < hi)) E' { s with heap := h, toks := tk })
    (fin : ∀ (ys : List Value) (zs : List Int), IntsAre ys zs → zs.length = n → (∀ z ∈ zs, lo ≤ z ∧ z < hi) → Fin ys news) : LCg.CompRest prog w A h₀ L m env elt x scope cl s S P Fin n 0 [] news := by
  refine rest_eachJ (fun i ys => ∃ zs : List Int, IntsAre ys zs ∧ zs.length = i ∧ ∀ z ∈ zs, lo ≤ z ∧ z < hi) ⟨[], .nil, rfl, fun _ h => nomatch h⟩ ?_ (fun ys ⟨zs, h1, h2, h3⟩ => fin ys zs h1 h2 h3)
  intro i v I oI C oC D m₂ ys h tk E' hi hJ hv hC hx F N off ne
  refine wpAny_mono (turn i v I oI C oC D m₂ ys h tk E' hi hv hC hx F N off ne) (fun y s₂ hq => ?_) fun _ _ e => e
  obtain ⟨h', tk', nw, e, F', N', off', hS, hn, k, t, rfl, hk1, hk2⟩ := hq
  obtain ⟨zs, h1, h2, h3⟩ := hJ
  refine ⟨h', tk', nw, e, F', N', off', hS, hn, zs ++ [k], ints_snoc h1, by rw [List.length_append, h2]; rfl, fun z hz => ?_⟩
  rcases List.mem_append.mp hz with hz | hz
  · exact h3 z hz
  · rw [List.mem_singleton.mp hz]; exact ⟨hk1, hk2⟩
end
end Mine
end

section
open PySem PySem.W PyProof.Rows PySem.Calls
set_option maxRecDepth 100000
namespace Mine
section
variable {M : Model} {A : Around} {R : GenEnd} {Y : Protocol} {n : Nat} {s₀ : Shared} {c : Code} {fs : List Frame} {s : Shared} {env : Env}
  {K : Flow → Sem PySem.Fin} {H : Value → Sem PySem.Fin} {gd : Bool → Bool} {lv : List Value → List Value}
/-- a statement that yields nothing -/
theorem seg_plain {st : Stmt} {rest : List Stmt}
    (h : wpAny M (A.over c fs) (exec st env) (fun f s' => f = .next ∧ Seg M A R Y n s₀ c ((execs rest env).wrap K H gd lv) fs s') (fun _ _ => False) s) :
    Seg M A R Y n s₀ c ((execs (st :: rest) env).wrap K H gd lv) fs s := by
  refine seg_execs_cons (seg_wrap (wpAny_mono h (fun f s' h' => ?_) fun _ _ x => x.elim))
  obtain ⟨rfl, h'⟩ := h'
  exact h'
theorem seg_If {test : Expr} {body orelse : List Stmt} {pos : Pos}
    (h : wpAny M (A.over c fs) (isTrue test env (eval test env)) (fun b s' => if b = true then Seg M A R Y n s₀ c ((execs body env).wrap K H gd lv) fs s' else Seg M A R Y n s₀ c ((execs orelse env).wrap K H gd lv) fs s')
      (fun _ _ => False) s) :
    Seg M A R Y n s₀ c ((exec (.If test body orelse pos) env).wrap K H gd lv) fs s := by
  rw [exec_If]
  refine seg_bind_wrap (wpAny_standAt (seg_bind_wrap (wpAny_mono h (fun b s' h' => ?_) fun _ _ x => x.elim)))
  cases b with
  | true => simpa using h'
  | false => simpa using h'
/-- how the loop's own frame goes on -/
abbrev afterLoop (env : Env) (K : Flow → Sem PySem.Fin) (H : Value → Sem PySem.Fin) (gd : Bool → Bool) (lv : List Value → List Value) (r : Result) : Sem PySem.Fin :=
  ((match r with | .ok f => (.pure f : Sem Flow) | .error e => .raise e).onRaise fun (x : Value) => do
        if (← field x 1) == Value.none then unsupported "frame.own-activation:exception-without-traceback"
        setFlight x env.frame).wrap K H gd lv
theorem seg_For {x : Str} {px pos : Pos} {iter : Expr} {body : List Stmt}
    (h : wpAny M (A.over c fs) (eval iter env) (fun xv s₁ => wpAny M (A.over c fs) (pyIter xv) (fun it s₂ =>
      ∀ p, Seg M A R Y n s₀ (.forLoop (.Name x px) it body [] env) (M.den (.forLoop (.Name x px) it body [] env)) (.ret (afterLoop env K H gd lv) none (gd false) (lv []) c p [] :: fs) s₂) (fun _ _ => False) s₁) (fun _ _ => False) s)
    (hs : ∀ x, foldedSetIterable iter env x = pure x := by intro _; rfl) :
    Seg M A R Y n s₀ c ((exec (.For (.Name x px) iter body [] pos) env).wrap K H gd lv) fs s := by
  rw [exec_For]
  refine seg_bind_wrap (wpAny_standAt (seg_bind_wrap (wpAny_mono h (fun xv s₁ h₁ => ?_) fun _ _ x => x.elim)))
  refine seg_bind_wrap (wpAny_of_eq (hs xv) (seg_bind_wrap (wpAny_standAt (seg_bind_wrap (wpAny_holding (wpAny_mono h₁ (fun it s₂ h₂ => ?_) fun _ _ x => x.elim))))))
  exact seg_call h₂
end
section
variable {prog : Program} {w : World} {A : Around} {R : GenEnd} {Y : Protocol} {n : Nat} {s₀ : Shared} {fs : List Frame} {s : Shared} {env : Env}
theorem seg_forLoop {x : Str} {px : Pos} {it : Value} {body : List Stmt}
    (h : wpAny (model prog w) (A.over (.forLoop (.Name x px) it body [] env) fs) (pyNext it) (fun r s₁ => match r with
      | none => False
      | some v => wpAny (model prog w) (A.over (.forLoop (.Name x px) it body [] env) fs) (storeName env x v) (fun _ s₂ =>
          Seg (model prog w) A R Y n s₀ (.forLoop (.Name x px) it body [] env) ((execs body env).wrap (fun f => match f with
            | .next | .cont => .pure (.again (.forLoop (.Name x px) it body [] env))
            | .brk => .pure (.done .next)
            | .ret v => .pure (.done (.ret v))) (fun e => (do noteFrame e env; theTreesLotGoes e : Sem Unit).wrap (fun _ => .raise e) .raise id id) id id) fs s₂) (fun _ _ => False) s₁)
      (fun _ _ => False) s) :
    Seg (model prog w) A R Y n s₀ (.forLoop (.Name x px) it body [] env) ((model prog w).den (.forLoop (.Name x px) it body [] env)) fs s := by
  show Seg _ A R Y n s₀ _ ((forTurn (.Name x px) it body [] env).onRaise (fun x => do noteFrame x env; theTreesLotGoes x)) fs s
  unfold forTurn
  rw [Sem.onRaise_eq_wrap]
  refine seg_bind_wrap (wpAny_standAt (seg_bind_wrap (wpAny_onRaise (wpAny_mono h (fun r s₁ h₁ => ?_) fun _ _ x => x.elim))))
  cases r with
  | none => exact h₁.elim
  | some v =>
    show Seg _ A R Y n s₀ _ ((letOwnedTupleGo (.Name x px) it v >>= _).wrap _ _ _ _) fs s₁
    refine seg_bind_wrap (wpAny_of_eq (a := ()) rfl (seg_bind_wrap (wpAny_assign_Name (wpAny_mono h₁ (fun _ s₂ h₂ => ?_) fun _ _ x => x.elim))))
    rw [Sem.bind_eq_wrap', Sem.wrap_wrap]
    rw [Sem.wrap_congr (execs body env) _ _ (K' := fun f => match f with
            | .next | .cont => .pure (.again (.forLoop (.Name x px) it body [] env))
            | .brk => .pure (.done .next)
            | .ret v => .pure (.done (.ret v))) (H' := (fun e => (do noteFrame e env; theTreesLotGoes e : Sem Unit).wrap (fun _ => .raise e) .raise id id))
        (fun f => by cases f <;> rfl)
        (fun e => by first | exact Sem.bind_eq_wrap _ _ | (show (do noteFrame e env; theTreesLotGoes e : Sem Unit).bind (fun _ => .raise e) = _; rw [Sem.bind_eq_wrap]))]
    exact h₂
end
end Mine
end

section
open PySem PySem.W PyProof.Rows PySem.Calls
set_option maxRecDepth 100000
namespace Mine
/-- the state since the generator woke: only its frame and its iterator have changed -/
def Since (h₀ : Heap) (L I : Addr) (s₀ s : Shared) : Prop := (∀ b o, h₀.get? b = some o → s₀.heap.get? b = some o) ∧ ∃ h tk, s = { s₀ with heap := h, toks := tk } ∧ ∀ b o, b ≠ L → b ≠ I → s₀.heap.get? b = some o → h.get? b = some o
theorem Since.refl {h₀ : Heap} (L I : Addr) (s : Shared) (k : ∀ b o, h₀.get? b = some o → s.heap.get? b = some o) : Since h₀ L I s s := ⟨k, s.heap, s.toks, rfl, fun _ _ _ _ e => e⟩
theorem Since.step {h₀ : Heap} {L I : Addr} {s₀ s : Shared} (x : Since h₀ L I s₀ s) {h' : Heap} {tk : Nat} (hk : ∀ b o, b ≠ L → b ≠ I → s.heap.get? b = some o → h'.get? b = some o) : Since h₀ L I s₀ { s with heap := h', toks := tk } := by
  obtain ⟨k, h, t, rfl, h1⟩ := x
  exact ⟨k, h', tk, rfl, fun b o hL hI e => hk b o hL hI (h1 b o hL hI e)⟩
/-- the generator's frame, its iterator at place i, its list -/
structure GF (h₀ : Heap) (L l I : Addr) (ol : Obj) (m : Str → Option Value) (i : Nat) (s : Shared) : Prop where
  fr : Fr h₀ L s.heap m
  it : s.heap.IsListIter I l i
  ls : s.heap.get? l = some ol
  hLI : L ≠ I
  hlL : l ≠ L
  hlI : l ≠ I
  i0 : h₀.get? I = none
  l0 : h₀.get? l = none
/-- what is given out: the value, and how the generator goes on -/
def gProto (h₀ : Heap) (L l I : Addr) (ol : Obj) (val : Nat → Int) (N : Nat) : Protocol := fun n s₀ v s₁ kap =>
  (∃ t, v = .int (val (N - 1 - n)) t) ∧ Since h₀ L I s₀ s₁ ∧ ∃ oL oI, s₁.heap.get? L = some oL ∧ s₁.heap.get? I = some oI ∧ h₀.get? I = none ∧
    (n = 0 ∨ ∀ s'' : Shared, (∀ b o, h₀.get? b = some o → s''.heap.get? b = some o) → s''.heap.get? L = some oL → s''.heap.get? I = some oI → s''.heap.get? l = some ol → kap (.send .none) s'')
theorem GF.back {h₀ : Heap} {L l I : Addr} {ol : Obj} {m : Str → Option Value} {i : Nat} {s s' : Shared} {oL oI : Obj} (x : GF h₀ L l I ol m i s) (eL : s.heap.get? L = some oL) (eI : s.heap.get? I = some oI)
    (k : ∀ b o, h₀.get? b = some o → s'.heap.get? b = some o) (kL : s'.heap.get? L = some oL) (kI : s'.heap.get? I = some oI) (kl : s'.heap.get? l = some ol) : GF h₀ L l I ol m i s' := by
  obtain ⟨⟨ns, kp, ab⟩, ⟨o, e, r⟩, ls, h1, h2, h3, h4, h5⟩ := x
  refine ⟨⟨ns.at fun o e => ?_, k, ab⟩, ⟨oI, kI, ?_⟩, kl, h1, h2, h3, h4, h5⟩
  · rw [eL] at e; cases e; exact kL
  · rw [eI] at e; cases e; exact r
theorem GF.objs {h₀ : Heap} {L l I : Addr} {ol : Obj} {m : Str → Option Value} {i : Nat} {s : Shared} (x : GF h₀ L l I ol m i s) : ∃ oL oI, s.heap.get? L = some oL ∧ s.heap.get? I = some oI := by
  obtain ⟨⟨⟨oL, _, _, eL, _⟩, _, _⟩, ⟨oI, eI, _⟩, _⟩ := x
  exact ⟨oL, oI, eL, eI⟩
/-- to give out a value -/
theorem GF.yields {h₀ : Heap} {L l I : Addr} {ol : Obj} {m : Str → Option Value} {i : Nat} {s s₀ : Shared} (x : GF h₀ L l I ol m i s) (hs : Since h₀ L I s₀ s) {val : Nat → Int} {N n : Nat} {v : Value} {kap : Resume → Shared → Prop}
    (hv : ∃ t, v = .int (val (N - 1 - n)) t) (hk : 0 < n → ∀ s'', GF h₀ L l I ol m i s'' → kap (.send .none) s'') : gProto h₀ L l I ol val N n s₀ v s kap := by
  obtain ⟨oL, oI, eL, eI⟩ := x.objs
  refine ⟨hv, hs, oL, oI, eL, eI, x.i0, ?_⟩
  by_cases h : n = 0
  · exact .inl h
  · exact .inr fun s'' k kL kI kl => hk (by omega) s'' (x.back eL eI k kL kI kl)
/-- all that stands but the base, the frame and the iterator -/
def allOf (h₀ : Heap) (L I : Addr) (s₀ : Shared) : List (Addr × Obj) :=
  (List.range s₀.heap.objs.size).filterMap fun b => if b = L ∨ b = I ∨ (h₀.get? b).isSome then none else (s₀.heap.get? b).map fun o => (b, o)
theorem mem_allOf {h₀ : Heap} {L I : Addr} {s₀ : Shared} {p : Addr × Obj} : p ∈ allOf h₀ L I s₀ ↔ s₀.heap.get? p.1 = some p.2 ∧ p.1 ≠ L ∧ p.1 ≠ I ∧ h₀.get? p.1 = none := by
  unfold allOf
  rw [List.mem_filterMap]
  constructor
  · rintro ⟨b, hb, h⟩
    split at h
    · cases h
    · rename_i hn
      obtain ⟨o, ho, rfl⟩ := Option.map_eq_some_iff.mp h
      refine ⟨ho, fun e => hn (.inl e), fun e => hn (.inr (.inl e)), ?_⟩
      cases q : h₀.get? b with
      | none => rfl
      | some o' => exact absurd (.inr (.inr (by rw [q]; rfl))) hn
  · rintro ⟨h1, h2, h3, h4⟩
    refine ⟨p.1, List.mem_range.mpr (Heap.lt_size h1), ?_⟩
    rw [if_neg]
    · rw [h1]; rfl
    · rintro (h | h | h)
      · exact h2 h
      · exact h3 h
      · rw [h4] at h; cases h
theorem Since.of {h₀ : Heap} {L I : Addr} {s₀ s : Shared} {m : Str → Option Value} {h' : Heap} {tk : Nat} {pre : List (Addr × Obj)} (x : Since h₀ L I s₀ s) (F : Fr h₀ L h' m) (N : News h₀ L h' (pre ++ allOf h₀ L I s₀)) : Since h₀ L I s₀ { s with heap := h', toks := tk } := by
  obtain ⟨k, h, t, rfl, _⟩ := x
  refine ⟨k, h', tk, rfl, fun b o hL hI e => ?_⟩
  cases q : h₀.get? b with
  | some o' =>
    have := k b o' q
    rw [e] at this
    cases this
    exact F.keep b o q
  | none => exact (N (b, o) (List.mem_append_right _ (mem_allOf.mpr ⟨e, hL, hI, q⟩))).1
theorem Since.news {h₀ : Heap} {L I : Addr} {s₀ s : Shared} (x : Since h₀ L I s₀ s) : News h₀ L s.heap (allOf h₀ L I s₀) := by
  obtain ⟨k, h, t, rfl, h1⟩ := x
  intro p hp
  obtain ⟨e, e1, e2, e3⟩ := mem_allOf.mp hp
  exact ⟨h1 _ _ e1 e2 e, e1, e3⟩
/-- a generator's state, ready for the walk -/
theorem GF.walk {h₀ : Heap} {L l I : Addr} {ol : Obj} {m : Str → Option Value} {i : Nat} {s s₀ : Shared} (x : GF h₀ L l I ol m i s) (hs : Since h₀ L I s₀ s) :
    ∃ oI, News h₀ L s.heap ([(I, oI), (l, ol)] ++ allOf h₀ L I s₀) ∧ ∀ h' m' tk, Fr h₀ L h' m' → News h₀ L h' ([(I, oI), (l, ol)] ++ allOf h₀ L I s₀) → Since h₀ L I s₀ { s with heap := h', toks := tk } ∧ GF h₀ L l I ol m' i { s with heap := h', toks := tk } := by
  obtain ⟨F, ⟨oI, eI, r⟩, ls, h1, h2, h3, h4, h5⟩ := x
  refine ⟨oI, fun p hp => ?_, fun h' m' tk F' N' => ⟨hs.of F' N', F', ⟨oI, (N' (I, oI) (.head _)).1, r⟩, (N' (l, ol) (.tail _ (.head _))).1, h1, h2, h3, h4, h5⟩⟩
  rcases List.mem_append.mp hp with hp | hp
  · rcases List.mem_cons.mp hp with rfl | hp
    · exact ⟨eI, Ne.symm h1, h4⟩
    · rw [List.mem_singleton.mp hp]
      exact ⟨ls, h2, h5⟩
  · exact hs.news p hp
section
variable {prog : Program} {w : World} {A : Around} {R : GenEnd} {fs : List Frame} {env : Env} {h₀ : Heap} {L l I : Addr} {ol : Obj} {val : Nat → Int} {N : Nat}
theorem while_phase {test : Expr} {body : List Stmt} (PL : (Str → Option Value) → Prop) (j i : Nat)
    (turn : ∀ n s₀ s m, j + (n + 1) ≤ N → Since h₀ L I s₀ s → GF h₀ L l I ol m i s → PL m →
      (∀ s₁ s' m', 0 < n → Since h₀ L I s₁ s' → GF h₀ L l I ol m' i s' → PL m' → Seg (model prog w) A R (gProto h₀ L l I ol val N) n s₁ (.whileLoop test body [] env) (.pure (.again (.whileLoop test body [] env))) fs s') →
      Seg (model prog w) A R (gProto h₀ L l I ol val N) (n + 1) s₀ (.whileLoop test body [] env) ((model prog w).den (.whileLoop test body [] env)) fs s) :
    ∀ n s₀ s m, j + (n + 1) ≤ N → Since h₀ L I s₀ s → GF h₀ L l I ol m i s → PL m → Seg (model prog w) A R (gProto h₀ L l I ol val N) (n + 1) s₀ (.whileLoop test body [] env) ((model prog w).den (.whileLoop test body [] env)) fs s := by
  intro n
  induction n with
  | zero => exact fun s₀ s m hN hs hg hp => turn 0 s₀ s m hN hs hg hp fun _ _ _ h => absurd h (Nat.lt_irrefl _)
  | succ n ih => exact fun s₀ s m hN hs hg hp => turn (n + 1) s₀ s m hN hs hg hp fun s₁ s' m' _ hs' hg' hp' => seg_again rfl (ih s₁ s' m' (by omega) hs' hg' hp')
theorem for_phase {x : Str} {px : Pos} {body : List Stmt} {vs : List Value} {nl : Nat} {xs : List Int} (PL : Nat → (Str → Option Value) → Prop) (hvs : IntsAre vs (xs ++ [0])) (hol : ol = { cls := .type "list", data := .seq vs.toArray nl })
    (hx : env.kindOf x = some .local) (hpl : (env.scope.kind == .class || (env.scope.kind == .module && env.locals != env.globals)) = false) (hL : env.locals = L)
    (T1 : ∀ n i s₀ s m t v, xs[i]? = some v → i + (n + 1) = N → Since h₀ L I s₀ s → GF h₀ L l I ol (fun y => if y = x then some (.int v t) else m y) (i + 1) s → PL i m →
      (∀ s₁ s' m', 0 < n → Since h₀ L I s₁ s' → GF h₀ L l I ol m' (i + 1) s' → PL (i + 1) m' → Seg (model prog w) A R (gProto h₀ L l I ol val N) n s₁ (.forLoop (.Name x px) (.ref I) body [] env) (.pure (.again (.forLoop (.Name x px) (.ref I) body [] env))) fs s') →
      Seg (model prog w) A R (gProto h₀ L l I ol val N) (n + 1) s₀ (.forLoop (.Name x px) (.ref I) body [] env) ((execs body env).wrap (fun f => match f with
            | .next | .cont => .pure (.again (.forLoop (.Name x px) (.ref I) body [] env))
            | .brk => .pure (.done .next)
            | .ret v => .pure (.done (.ret v))) (fun e => (do noteFrame e env; theTreesLotGoes e : Sem Unit).wrap (fun _ => .raise e) .raise id id) id id) fs s)
    (T2 : ∀ n s₀ s m t, xs.length + (n + 1) = N → Since h₀ L I s₀ s → GF h₀ L l I ol (fun y => if y = x then some (.int 0 t) else m y) (xs.length + 1) s → PL xs.length m →
      Seg (model prog w) A R (gProto h₀ L l I ol val N) (n + 1) s₀ (.forLoop (.Name x px) (.ref I) body [] env) ((execs body env).wrap (fun f => match f with
            | .next | .cont => .pure (.again (.forLoop (.Name x px) (.ref I) body [] env))
            | .brk => .pure (.done .next)
            | .ret v => .pure (.done (.ret v))) (fun e => (do noteFrame e env; theTreesLotGoes e : Sem Unit).wrap (fun _ => .raise e) .raise id id) id id) fs s) :
    ∀ n i s₀ s m, i + (n + 1) = N → i ≤ xs.length → Since h₀ L I s₀ s → GF h₀ L l I ol m i s → PL i m →
      Seg (model prog w) A R (gProto h₀ L l I ol val N) (n + 1) s₀ (.forLoop (.Name x px) (.ref I) body [] env) ((model prog w).den (.forLoop (.Name x px) (.ref I) body [] env)) fs s := by
  subst hL
  have one : ∀ n i s₀ s m, i + (n + 1) = N → i ≤ xs.length → Since h₀ env.locals I s₀ s → GF h₀ env.locals l I ol m i s → PL i m →
      (∀ s₁ s' m', 0 < n → i < xs.length → Since h₀ env.locals I s₁ s' → GF h₀ env.locals l I ol m' (i + 1) s' → PL (i + 1) m' → Seg (model prog w) A R (gProto h₀ env.locals l I ol val N) n s₁ (.forLoop (.Name x px) (.ref I) body [] env) (.pure (.again (.forLoop (.Name x px) (.ref I) body [] env))) fs s') →
      Seg (model prog w) A R (gProto h₀ env.locals l I ol val N) (n + 1) s₀ (.forLoop (.Name x px) (.ref I) body [] env) ((model prog w).den (.forLoop (.Name x px) (.ref I) body [] env)) fs s := by
    intro n i s₀ s m hN hi hs hg hp kont
    have hlist : s.heap.IsList l vs.toArray := ⟨ol, hg.ls, by rw [hol], nl, by rw [hol]⟩
    have hlen := hvs.length
    rw [List.length_append, List.length_singleton] at hlen
    obtain ⟨v0, hv0⟩ : ∃ v, vs[i]? = some v := ⟨vs[i], List.getElem?_eq_getElem (by omega)⟩
    obtain ⟨k, t, rfl, hk⟩ := IntsAre.at hvs i v0 hv0
    refine seg_forLoop (wpAny_pyNext_list_item hg.it hlist (by simpa using hv0) fun h1 hit1 hs1 => ?_)
    have F1 : Fr h₀ env.locals h1 m := LCg.fr_but hg.fr (fun b o hb e => (hs1.2 b (by simpa using hb)).trans e) hg.hLI hg.i0
    refine wpAny_storeName_local hx F1.ns (fun h2 hn2 hs2 => ?_) hpl
    have F2 := F1.set hn2 hs2
    have hst : Since h₀ env.locals I s₀ { s with heap := h2, toks := s.toks + 1 } := hs.step fun b o hL hI e => (hs2.2 b hL).trans ((hs1.2 b hI).trans e)
    have hg2 : GF h₀ env.locals l I ol (fun y => if y = x then some (.int k t) else m y) (i + 1) { s with heap := h2, toks := s.toks + 1 } :=
      ⟨F2, hit1.at fun o e => (hs2.2 I (Ne.symm hg.hLI)).trans e, (hs2.2 l hg.hlL).trans ((hs1.2 l hg.hlI).trans hg.ls), hg.hLI, hg.hlL, hg.hlI, hg.i0, hg.l0⟩
    by_cases hlt : i < xs.length
    · rw [List.getElem?_append_left hlt] at hk
      exact T1 n i s₀ _ m t k hk hN hst hg2 hp fun s₁ s' m' h0 hs' hg' hp' => kont s₁ s' m' h0 hlt hs' hg' hp'
    · obtain rfl : i = xs.length := by omega
      rw [List.getElem?_append_right (Nat.le_refl _), Nat.sub_self] at hk
      obtain rfl : 0 = k := by simpa using hk
      exact T2 n s₀ _ m t hN hst hg2 hp
  intro n
  induction n with
  | zero => exact fun i s₀ s m hN hi hs hg hp => one 0 i s₀ s m hN hi hs hg hp fun _ _ _ h => absurd h (Nat.lt_irrefl _)
  | succ n ih => exact fun i s₀ s m hN hi hs hg hp => one (n + 1) i s₀ s m hN hi hs hg hp fun s₁ s' m' _ hlt hs' hg' hp' => seg_again rfl (ih (i + 1) s₁ s' m' (by omega) (by omega) hs' hg' hp')
end
end Mine
end

section
open PySem PySem.W PyProof.Rows PySem.Calls
set_option maxRecDepth 100000
set_option maxHeartbeats 8000000
namespace Mine
section
variable {prog : Program} {w : World} {A : Around} {s : Shared} {R : Result → Shared → Prop}
variable {K : Frag} {L : Addr} {h₀ : Heap} {m mg mb : Str → Option Value} {news : List (Addr × Obj)} {p : Program} {loose : List Str} {mean : ExcName → Option Value}
theorem code_gen {name qual : Str} {params : Arguments} {body : List Stmt} {scope : Scope} {dV kV doc pm cdv ct oc : Value} {an od : Option Addr} {osl : Array (Option Value)} {f : Addr} {args : Args} {binds : List (Str × Value)}
    (F : Fr h₀ L s.heap m) (X₀ : K.In h₀) (_N : News h₀ L s.heap news) (T : Top p loose mean mg mb h₀)
    (ho : K.lookup f = some ⟨oc, od, .func (fnOf name qual params body scope dV kV doc pm an cdv ct), osl⟩) (hcd : codeIn K cdv qual = true) (hroom : A.depth < recursionLimit)
    (hbind : BindsTo s (fnOf name qual params body scope dV kV doc pm an cdv ct) args binds) (hloc : ∀ y ∈ binds, scope.names.lookup y.1 = some .local)
    (h : ∀ a' L' h₁ tk, L' = s.heap.objs.size → L' < a' → h₁.objs.size = a' + 1 → (∀ b o, s.heap.get? b = some o → h₁.get? b = some o) → h₁.Ns L' (fun y => binds.reverse.lookup y) → h₁.IsGen a' s.gens.size → h₁.NoLimit →
      R (.ok (.ret (.ref a'))) { s with gens := s.gens.push (.fresh (.func body (envOf qual scope L' f cdv))), heap := h₁, toks := tk })
    (hco : scope.isCoroutine = false) (hgen : scope.isGenerator = true) (hk : scope.kind = .function)
    (hcell : ∀ x ∈ scope.names, x.2 ≠ .cell) : codeAny (model prog w) A (.call (.ref f) args) R s := by
  refine codeAny_call_generator (fd := fnOf name qual params body scope dV kV doc pm an cdv ct) (body := body) hroom ((X₀.keeps F.keep) _ _ ho) rfl hco hgen rfl (codeRec_of (X₀.keeps F.keep) hcd) (hbind _ _ _ _ ?_)
  refine wpAny_newFunctionEnv hcell hloc (fun h₁ hns₀ hsb₀ => ?_) hk
  have hk₁ : ∀ b o, s.heap.get? b = some o → h₁.get? b = some o := fun b o e => hsb₀.extBut b o (Nat.ne_of_lt (Heap.lt_size e)) (Heap.get?_push_of_some _ e)
  refine ⟨(T.nolimit.keeps F.keep).fresh _ hsb₀, ?_⟩
  have hsz : h₁.objs.size = s.heap.objs.size + 1 := by rw [hsb₀.1, Heap.size_push]
  refine h h₁.objs.size s.heap.objs.size _ _ rfl (by omega) (by rw [Heap.size_push]) (fun b o e => Heap.get?_push_of_some _ (hk₁ b o e)) (hns₀.push _) ⟨_, _, _, Heap.get?_push_size _ rfl, rfl, rfl, rfl⟩ ?_
  exact ((T.nolimit.keeps F.keep).fresh _ hsb₀).keeps fun b o e => Heap.get?_push_of_some _ e
end
example : PySem.Challenge.rw_ph0009_01 = PySem.Challenge.rw_ph0009_01 ∧ hd.heap_39 = hd.heap_39 := by
  k_fill; exact ⟨rfl, rfl⟩
theorem at_name {m : Str → Option Value} {x : Str} {v : Value} (h : m x = some v) : m = fun y => if y = x then some v else m y := by
  funext y
  by_cases e : y = x
  · rw [if_pos e, e, h]
  · rw [if_neg e]
def gVal (xs : List Int) (j : Nat) : Int := xs.getD (min j (xs.length - 1)) 0
/-- the generator is ready to run -/
def Ready (w : World) (h₀ : Heap) (L l : Addr) (oL ol : Obj) (xs : List Int) (c : Code) : Prop :=
  ∀ (N : Nat) (A : Around) (R : GenEnd) (s : Shared), (∀ b o, h₀.get? b = some o → s.heap.get? b = some o) → s.heap.get? L = some oL → s.heap.get? l = some ol →
    Seg (model PySem.Challenge.rw_ph0009_01.row.prog w) A R (gProto h₀ L l s.heap.objs.size ol (gVal xs) (N + 1)) (N + 1) s c ((model PySem.Challenge.rw_ph0009_01.row.prog w).den c) [] s
theorem group_ok (w : World) (mean : ExcName → Option Value) (mg mb : Str → Option Value) (l : Addr) (vs : List Value) (nl : Nat) (xs : List Int) (news : List (Addr × Obj)) (hl : (l, ({ cls := .type "list", data := .seq (vs : List Value).toArray nl } : Obj)) ∈ news)
    (hvs : IntsAre vs (xs ++ [0])) (hx : ∀ v ∈ xs, 0 < v ∧ v < 127) (hne : 0 < xs.length) (hz : xs.length ≤ 100)
    (dp un : Nat) (gd : Option (List Code)) (cn : Str) (cs : Scope) (a : Addr) (ccd : Value) (cl : List (Str × Addr)) (outer : List Env) (h₀ : Heap) (L : Addr) (m : Str → Option Value) (s : Shared) (Q E : Value → Shared → Prop)
    (hF : Fr h₀ L s.heap m) (hK : (hd.heap_39 w.params).In h₀) (hN : News h₀ L s.heap news) (hT : Top hd.view_39 (looseW hd.view_39 []) mean mg mb h₀) (hdp : dp + 1 < recursionLimit)
    (hret : ∀ (a' L' : Addr) (oL : Obj) (c : Code) (h' : Heap) (tk' : Nat), L' < a' → (∀ p ∈ news, p.1 < L') → Fr h₀ L h' m → News h₀ L h' ((L', oL) :: news) → h'.IsGen a' s.gens.size → L < L' → h'.objs.size = a' + 1 → h'.NoLimit →
      Ready w h₀ L' l oL { cls := .type "list", data := .seq (vs : List Value).toArray nl } xs c → Q (.ref a') { s with gens := s.gens.push (.fresh c), heap := h', toks := tk' }) :
    wpAny (model PySem.Challenge.rw_ph0009_01.row.prog w) (ktrTop dp un gd cn cs L a ccd cl outer) (call (.ref 28) [.ref l]) Q E s := by
  refine wpAny_call ?_
  k_dflt (refine' code_gen hF hK hN hT ?k6 ?k7 ?k8 ?k9 ?kB ?_ ?c2 ?c3 ?c4 ?c5; (case k6 => k_is); (case k7 => k_is); (case k8 => ktr_room); (case k9 => exact BindsTo.of_eq rfl); (case c5 => decide); (case kB => exact locs rfl); (case c2 => exact rfl); (case c3 => exact rfl); (case c4 => exact rfl); k_whole)
  intro a' L' h1 tk hL' hlt hsz hkeep hns hgen hlim
  dsimp only
  obtain ⟨oL, eL, hoL⟩ := LCg.ns_obj hns
  have hLn : h₀.get? L' = none := by rw [hL']; exact next_is_new hF
  have hLL : L < L' := by rw [hL']; exact hF.ns.lt
  have F1 : Fr h₀ L h1 m := hF.keeps hkeep
  refine hret a' L' oL _ h1 tk hlt (fun p hp => by rw [hL']; exact Heap.lt_size (hN p hp).1) F1 (fun p hp => ?_) hgen hLL hsz hlim ?_
  · rcases List.mem_cons.mp hp with rfl | hp
    · exact ⟨eL, Nat.ne_of_gt hLL, hLn⟩
    · exact hN.grown hkeep p hp
  intro N A' R s2 hk2 hL2 hl2
  refine seg_func ?_
  have hlm := (hN _ hl)
  have hlL : l ≠ L' := Nat.ne_of_lt (by rw [hL']; exact Heap.lt_size hlm.1)
  have F2 := (⟨hoL.ns hL2, hk2, Nat.le_of_lt (Nat.lt_of_le_of_lt hF.above hLL)⟩ : Fr h₀ L' s2.heap _)
  generalize hI : s2.heap.objs.size = I
  generalize hol : ({ cls := .type "list", data := .seq (vs : List Value).toArray nl } : Obj) = ol at *
  have hS : Since h₀ L' I s2 s2 := Since.refl _ _ _ hk2
  have hI0 : h₀.get? I = none := by rw [← hI]; exact next_is_new F2
  have hLI : L' ≠ I := by rw [← hI]; exact Nat.ne_of_lt F2.ns.lt
  have hlI : l ≠ I := by rw [← hI]; exact Nat.ne_of_lt (Heap.lt_size hl2)
  clear hns hret hN F1 hF
  refine seg_plain ?_
  rw [exec_Assign_Name _ _ _ _ _ (by rfl)]
  refine wpAny_bind (wpAny_standAt (wpAny_bind (wpAny_of_eq (a := Value.none) (by rfl) (wpAny_bind (wpAny_standAt (wpAny_bind (wpAny_bindName (wpAny_storeName_local (by rfl) F2.ns (fun h3 hn3 hs3 => wpAny_pure ⟨rfl, ?_⟩) (by rfl)))))))))
  have F3 := F2.set hn3 hs3
  have hl3 := (hs3.2 l hlL).trans hl2
  have hI3 : h3.objs.size = I := by rw [hs3.1, hI]
  refine seg_execs_cons (seg_For (wpAny_ofH ?_))
  k_steps
  have hlist : h3.IsList l vs.toArray := ⟨ol, hl3, by rw [← hol], nl, by rw [← hol]⟩
  refine ⟨wpAny_pyIter_list hlist fun p => ?_⟩
  dsimp only
  rw [hI3]
  generalize hh4 : h3.push { cls := .type "list_iterator", data := .fields #[.ref l, .int 0 0] } = h4
  have up : ∀ b o, h3.get? b = some o → h4.get? b = some o := fun b o e => hh4 ▸ Heap.get?_push_of_some _ e
  have hit4 : h4.IsListIter I l 0 := by rw [← hh4, ← hI3]; exact ⟨_, Heap.get?_push_size _ rfl, rfl, rfl⟩
  have G4 : ∃ m', GF h₀ L' l I ol m' 0 { s2 with heap := h4, toks := s2.toks + 1 } ∧ m' (Str.ofString "last_interval") = some .none := ⟨_, ⟨F3.keeps up, hit4, up _ _ hl3, hLI, hlL, hlI, hI0, hlm.2.2⟩, rfl⟩
  obtain ⟨m3, G4, hm3⟩ := G4
  have S4 : Since h₀ L' I s2 { s2 with heap := h4, toks := s2.toks + 1 } := ⟨hk2, h4, _, rfl, fun b o e1 e2 e => up _ _ ((hs3.2 b e1).trans e)⟩
  clear hn3 F3
  refine for_phase (L := L') (PL := fun i m => m (Str.ofString "last_interval") = some .none ∧ i = 0 ∨ ∃ t j, m (Str.ofString "last_interval") = some (.int (xs.getD j 0) t) ∧ i = j + 1) hvs hol.symm rfl rfl rfl ?T1 ?T2 N 0 s2 _ m3 (by omega) (by omega) S4 G4 (.inl ⟨hm3, rfl⟩)
  case T1 =>
    intro n i s0 s4 m t v hv hN hS4 hG4 hP kont
    obtain ⟨oI, N4, back⟩ := hG4.walk hS4
    have F4 := hG4.fr
    have hv' := hx v (List.mem_of_getElem? hv)
    refine seg_plain (wpAny_ofH ?_)
    k_steps
    all_goals try (exfalso; omega)
    refine ⟨rfl, ?_⟩
    refine seg_plain (wpAny_ofH ?_)
    k_steps
    all_goals try (exfalso; omega)
    refine ⟨rfl, ?_⟩
    refine seg_execs_cons (seg_Expr_Yield rfl rfl rfl (wpAny_ofH ?_))
    k_steps
    refine ⟨fun kap hkap => ?_⟩
    obtain ⟨S5, G5⟩ := back _ _ _ F4 N4
    refine G5.yields S5 ⟨t, ?_⟩ (fun hn s5 hG => hkap .none s5 ?_)
    · have : N + 1 - 1 - n = i := by omega
      have hil : i < xs.length := by
        rcases Nat.lt_or_ge i xs.length with h | h
        · exact h
        · rw [List.getElem?_eq_none h] at hv; cases hv
      rw [this]
      unfold gVal
      rw [show min i (xs.length - 1) = i by omega, List.getD_eq_getElem?_getD, hv]
      rfl
    · obtain ⟨oI', N5, back5⟩ := hG.walk (Since.refl _ _ _ hG.fr.keep)
      have F5 := hG.fr
      dsimp only
      clear kap hkap S5 G5 back N4 F4
      refine seg_plain (wpAny_ofH ?_)
      k_steps
      refine ⟨rfl, ?_⟩
      rename Fr _ _ _ _ => F6
      rename News _ _ _ _ => N6
      obtain ⟨S6, G6⟩ := back5 _ _ _ F6 N6
      refine seg_execs_nil (kont s5 _ _ hn S6 G6 (.inr ⟨t, i, ?_, rfl⟩))
      rw [List.getD_eq_getElem?_getD, hv]
      rfl
  case T2 =>
    intro n s0 s4 m t hN hS4 hG4 hP
    obtain ⟨tl, j, hlast, hj⟩ : ∃ tl j, m (Str.ofString "last_interval") = some (.int (xs.getD j 0) tl) ∧ xs.length = j + 1 := by
      rcases hP with ⟨_, h⟩ | h
      · omega
      · exact h
    rw [at_name hlast] at hG4
    have F4 := hG4.fr
    obtain ⟨oI, N4, back⟩ := hG4.walk hS4
    (try dsimp only at F4)
    refine seg_plain (wpAny_ofH ?_)
    k_steps
    all_goals try (exfalso; omega)
    refine ⟨rfl, ?_⟩
    refine seg_execs_cons (seg_If (wpAny_ofH ?_))
    k_steps
    all_goals try (exfalso; omega)
    refine ⟨?_⟩
    rw [if_pos (by decide)]
    refine seg_plain (wpAny_ofH ?_)
    k_steps
    refine ⟨rfl, ?_⟩
    have SG := fun tk => back _ _ tk F4 N4
    refine seg_execs_cons (seg_While fun p2 => ?_)
    refine while_phase (L := L') (PL := fun m => ∃ tl, m (Str.ofString "last_interval") = some (.int (xs.getD j 0) tl)) (j + 1) (xs.length + 1) ?turn n s0 _ _ (by omega) (SG _).1 (SG _).2 ?pl2
    case pl2 => exact ⟨tl, rfl⟩
    clear hlast hP hG4 F4 N4 SG back hN
    intro n s0 s m hN hS hG hP kont
    obtain ⟨tl, hlast⟩ := hP
    rw [at_name hlast] at hG
    obtain ⟨oI, N4, back⟩ := hG.walk hS
    have F4 := hG.fr
    (try dsimp only at F4)
    refine seg_whileLoop (wpAny_never (wpAny_ofH ?_))
    k_steps
    refine ⟨?_⟩
    rw [if_pos rfl]
    refine seg_execs_cons (seg_Expr_Yield rfl rfl rfl (wpAny_never (wpAny_ofH ?_)))
    k_steps
    refine ⟨fun kap hkap => ?_⟩
    obtain ⟨S5, G5⟩ := back _ _ _ F4 N4
    refine G5.yields S5 ⟨tl, ?_⟩ (fun hn s5 hG5 => hkap .none s5 ?_)
    · unfold gVal
      rw [show min (N + 1 - 1 - n) (xs.length - 1) = j by omega]
    · exact seg_execs_nil (kont s5 s5 _ hn (Since.refl _ _ _ hG5.fr.keep) hG5 ⟨tl, by simp⟩)
end Mine
end

section
open PySem PySem.W PyProof.Rows PySem.Calls
set_option maxRecDepth 100000
set_option maxHeartbeats 8000000
namespace Mine
section
variable {w : World} {A : Around} {E : Value → Shared → Prop} {s : Shared} {env : Env} {h₀ : Heap} {x : Str} {body : List Stmt}
theorem push_set {α : Type} (a : Array α) (x y : α) : (a.push x).setIfInBounds a.size y = a.push y := by
  apply Array.ext'
  simp
/-- a loop over the generator; it ends by break or return -/
theorem for_genN {σ : Type} {px pos : Pos} {iter : Expr} {Q : Flow → Shared → Prop} {m₀ : Str → Option Value} {xs : List Int} {N : Nat} (Led : σ → List (Addr × Obj)) (ps : σ → List (Str × Value)) (stored : List Str) (P : Nat → σ → Prop) (c₀ : σ)
    (_F₀ : Fr h₀ env.locals s.heap m₀) (hh : A.handled = none) (hx : env.kindOf x = some .local) (hpl : (env.scope.kind == .class || (env.scope.kind == .module && env.locals != env.globals)) = false) (hroom : A.depth < recursionLimit) (hlim : h₀.NoLimit)
    (hit : wpAny (model PySem.Challenge.rw_ph0009_01.row.prog w) A (eval iter env) (fun xv s₁ => ∃ a' L' oL l ol c h' tk, xv = .ref a' ∧ s₁ = { s with gens := s.gens.push (.fresh c), heap := h', toks := tk } ∧ L' < a' ∧ (∀ p ∈ (l, ol) :: Led c₀, p.1 < L') ∧
      Fr h₀ env.locals h' m₀ ∧ News h₀ env.locals h' ((L', oL) :: (l, ol) :: Led c₀) ∧ h'.IsGen a' s.gens.size ∧ env.locals < L' ∧ h'.objs.size = a' + 1 ∧ (∀ p ∈ Led c₀, p.1 ≠ l) ∧ Ready w h₀ L' l oL ol xs c) (fun _ _ => False) s)
    (hk : ∀ p ∈ ps c₀, m₀ p.1 = some p.2) (hp : P 0 c₀) (hPN : ∀ i c, P i c → i < N)
    (turn : ∀ (c : σ) (i : Nat) t (u : Str → Option Value) h tk own gs, OwnOff own ((Led c₀).map (·.1)) → P i c → gs.bare = true →
      Fr h₀ env.locals h (fun y => if y = x then some (.int (gVal xs i) t) else kstB (fun z => if stored.contains z then u z else m₀ z) (ps c) y) → News h₀ env.locals h (Led c ++ own) →
      wpN (model PySem.Challenge.rw_ph0009_01.row.prog w) A (execs body env) (InvPostN h₀ env.locals (Mid Led ps x stored m₀ (P (i + 1))) own ((Led c₀).map (·.1)) { s with heap := h, toks := tk, gens := s.gens.push gs } Q) (fun _ _ => False) { s with heap := h, toks := tk, gens := s.gens.push gs })
    (hs : ∀ x, foldedSetIterable iter env x = pure x := by intro _; rfl) :
    wpN (model PySem.Challenge.rw_ph0009_01.row.prog w) A (exec (.For (.Name x px) iter body [] pos) env) Q E s := by
  refine wpN_For (wpAny_mono hit (fun xv s₁ h₁ => ?_) fun _ _ e => e) hs
  obtain ⟨a', L', oL, l, ol, c, h', tk, rfl, rfl, hLa, hltL, F, NW, hgen, hLc, hsz, hne, hready⟩ := h₁
  refine wpAny_pyIter_gen hgen ?_
  obtain ⟨oa, nm, qn, ea, ha1, ha2, ha3⟩ := hgen
  generalize hI : h'.objs.size = I at hsz
  have hL0 : h₀.get? L' = none := (NW (L', oL) (.head _)).2.2
  have hl0 : h₀.get? l = none := (NW (l, ol) (.tail _ (.head _))).2.2
  have hlL : l < L' := hltL (l, ol) (.head _)
  have ha0 : h₀.get? a' = none := Heap.get?_none_of_le (Nat.le_of_lt (Nat.lt_of_le_of_lt F.above (Nat.lt_trans hLc hLa)))
  have hI0 : h₀.get? I = none := by rw [← hI]; exact next_is_new F
  have hled : ∀ p ∈ Led c₀, p.1 < L' := fun p hp => hltL p (.tail _ hp)
  refine codeN_forLoop (fun k s' => ∃ h₁ tk₁ gs m' nx i priv, s' = { s with heap := h₁, toks := tk₁, gens := s.gens.push gs } ∧ gs.bare = true ∧ Fr h₀ env.locals h₁ m' ∧ News h₀ env.locals h₁ (nx ++ (l, ol) :: (a', oa) :: priv) ∧
      (∀ p ∈ priv, p.1 = L' ∨ p.1 = I) ∧ nx.map (·.1) = (Led c₀).map (·.1) ∧ Mid Led ps x stored m₀ (P i) m' nx ∧
      (i < N → ∀ s'' : Shared, (∀ b o, h₀.get? b = some o → s''.heap.get? b = some o) → s''.heap.get? l = some ol → (∀ p ∈ priv, s''.heap.get? p.1 = some p.2) → (i = 0 → s''.heap.objs.size = I) →
        gs.Goes (model PySem.Challenge.rw_ph0009_01.row.prog w) A.in1 (fun n s₀ r s₁ => r = .ok .next ∧ (fun _ _ _ => False : Nat → Shared → Shared → Prop) n s₀ s₁) (gProto h₀ L' l I ol (gVal xs) N) (N - i) (.send .none) s'') ∧
      (i = 0 → h₁.objs.size = I) ∧ k = N + 1 - i) ?_ (N + 1)
    ⟨h', tk, .fresh c, m₀, Led c₀, 0, [(L', oL)], rfl, rfl, F, fun p hp => ?_, fun p hp => .inl (by rw [List.mem_singleton.mp hp]), rfl, ⟨c₀, rfl, trivial, hk, fun _ _ _ _ => rfl, hp⟩, fun h0 s'' k1 k2 k3 k4 => ⟨rfl, ?_⟩, fun _ => hI, rfl⟩
  · rintro k s' ⟨h₁, tk₁, gs, m', nx, i, priv, rfl, hb, F₁, N₁, hpv, hadr, hM, hgo, hsz1, rfl⟩
    have hM' := hM
    obtain ⟨cc, rfl, _, hk1, hk2, hPi⟩ := hM
    have hiN := hPN i cc hPi
    obtain ⟨n, hn⟩ : ∃ n, N - i = n + 1 := ⟨N - i - 1, by omega⟩
    have eg : (s.gens.push gs)[s.gens.size]? = some gs := Array.getElem?_push_size ..
    have ea1 : h₁.get? a' = some oa := (N₁ (a', oa) (List.mem_append_right _ (.tail _ (.head _)))).1
    have el1 : h₁.get? l = some ol := (N₁ (l, ol) (List.mem_append_right _ (.head _))).1
    have hnotL : ∀ p ∈ Led cc, p.1 < L' := fun p hp => by
      have : p.1 ∈ (Led cc).map (·.1) := List.mem_map_of_mem hp
      rw [hadr] at this
      obtain ⟨q, hq, e⟩ := List.mem_map.mp this
      rw [← e]; exact hled q hq
    refine wpAny_pyNext_genexpQ (g := s.gens.size) (n := N - i) (gs := gs) (P := fun _ _ _ => False) (Y := gProto h₀ L' l I ol (gVal xs) N) hh (hlim.keeps F₁.keep) hroom ⟨oa, nm, qn, ea1, ha1, ha2, ha3⟩ eg
      (hgo hiN _ F₁.keep el1 (fun p hp => (N₁ p (List.mem_append_right _ (.tail _ (.tail _ hp)))).1) hsz1) (fun v s₁ gs' hb' hY => ?_) (fun _ h => h.elim)
    rw [hn] at hY
    obtain ⟨⟨t, rfl⟩, hsince, oL', oI', eL', eI', _, hkap⟩ := hY
    obtain ⟨_, h₂, tk₂, rfl, hpres⟩ := hsince
    have hidx : N - 1 - (n + 1 - 1) = i := by omega
    rw [hidx]
    dsimp only
    have hst : ({ (({ s with heap := h₁, toks := tk₁, gens := s.gens.push gs } : Shared).setGen s.gens.size .running) with heap := h₂, toks := tk₂ } : Shared).setGen s.gens.size gs' = { s with heap := h₂, toks := tk₂, gens := s.gens.push gs' } := by
      show ({ heap := h₂, toks := tk₂, gens := ((s.gens.push gs).setIfInBounds s.gens.size .running).setIfInBounds s.gens.size gs', drawn := s.drawn, os := s.os } : Shared) = _
      rw [push_set, push_set]
    rw [hst]
    have hcL : env.locals ≠ L' := Nat.ne_of_lt hLc
    have hcI : env.locals ≠ I := Nat.ne_of_lt (by rw [hsz]; exact Nat.lt_succ_of_lt (Nat.lt_trans hLc hLa))
    have F₂ : Fr h₀ env.locals h₂ m' := ⟨F₁.ns.at fun o e => hpres _ _ hcL hcI e, fun b o e => hpres b o (fun q => by rw [q, hL0] at e; cases e) (fun q => by rw [q, hI0] at e; cases e) (F₁.keep b o e), F₁.above⟩
    refine wpAny_assign_Name (wpAny_storeName_local hx F₂.ns (fun h₃ hn₃ hs₃ => ?_) hpl)
    have F₃ := F₂.set hn₃ hs₃
    have hLI : L' ≠ I := Nat.ne_of_lt (by rw [hsz]; exact Nat.lt_succ_of_lt hLa)
    have N₃ : News h₀ env.locals h₃ (Led cc ++ [(l, ol), (a', oa), (L', oL'), (I, oI')]) := fun p hp => by
      rcases List.mem_append.mp hp with hp | hp
      · have z := N₁ p (List.mem_append_left _ hp)
        have hlt := hnotL p hp
        exact ⟨(hs₃.2 _ z.2.1).trans (hpres _ _ (Nat.ne_of_lt hlt) (Nat.ne_of_lt (by rw [hsz]; exact Nat.lt_succ_of_lt (Nat.lt_trans hlt hLa))) z.1), z.2⟩
      · simp only [List.mem_cons, List.not_mem_nil, or_false] at hp
        rcases hp with rfl | rfl | rfl | rfl
        · have z := N₁ (l, ol) (List.mem_append_right _ (.head _))
          exact ⟨(hs₃.2 _ z.2.1).trans (hpres _ _ (Nat.ne_of_lt hlL) (Nat.ne_of_lt (by rw [hsz]; exact Nat.lt_succ_of_lt (Nat.lt_trans hlL hLa))) z.1), z.2⟩
        · have z := N₁ (a', oa) (List.mem_append_right _ (.tail _ (.head _)))
          exact ⟨(hs₃.2 _ z.2.1).trans (hpres _ _ (Nat.ne_of_gt hLa) (Nat.ne_of_lt (by rw [hsz]; exact Nat.lt_succ_self _)) z.1), z.2⟩
        · exact ⟨(hs₃.2 _ (Ne.symm hcL)).trans eL', Ne.symm hcL, hL0⟩
        · exact ⟨(hs₃.2 _ (Ne.symm hcI)).trans eI', Ne.symm hcI, hI0⟩
    refine wpN_mono (turn cc i t m' h₃ _ [(l, ol), (a', oa), (L', oL'), (I, oI')] gs' (fun p hp b hb => ?_) hPi hb' (kst_fr hk1 hk2 F₃) N₃) (fun f s₄ h₄ => ?_) fun _ _ e => e
    · obtain ⟨q, hq, rfl⟩ := List.mem_map.mp hb
      simp only [List.mem_cons, List.not_mem_nil, or_false] at hp
      have h1 := hled q hq
      have h2 := hne q hq
      rcases hp with rfl | rfl | rfl | rfl
      · exact Ne.symm h2
      · exact Nat.ne_of_gt (Nat.lt_trans h1 hLa)
      · exact Nat.ne_of_gt h1
      · exact Nat.ne_of_gt (by show q.1 < I; rw [hsz]; exact Nat.lt_succ_of_lt (Nat.lt_trans h1 hLa))
    · have fin : InvEndN h₀ env.locals (Mid Led ps x stored m₀ (P (i + 1))) [(l, ol), (a', oa), (L', oL'), (I, oI')] ((Led c₀).map (·.1)) { s with heap := h₃, toks := tk₂ + 1, gens := s.gens.push gs' } s₄ → ∃ m, m < N + 1 - i ∧ ∃ h₁ tk₁ gs m' nx i priv, s₄ = { s with heap := h₁, toks := tk₁, gens := s.gens.push gs } ∧ gs.bare = true ∧ Fr h₀ env.locals h₁ m' ∧ News h₀ env.locals h₁ (nx ++ (l, ol) :: (a', oa) :: priv) ∧
          (∀ p ∈ priv, p.1 = L' ∨ p.1 = I) ∧ nx.map (·.1) = (Led c₀).map (·.1) ∧ Mid Led ps x stored m₀ (P i) m' nx ∧
          (i < N → ∀ s'' : Shared, (∀ b o, h₀.get? b = some o → s''.heap.get? b = some o) → s''.heap.get? l = some ol → (∀ p ∈ priv, s''.heap.get? p.1 = some p.2) → (i = 0 → s''.heap.objs.size = I) →
            gs.Goes (model PySem.Challenge.rw_ph0009_01.row.prog w) A.in1 (fun n s₀ r s₁ => r = .ok .next ∧ (fun _ _ _ => False : Nat → Shared → Shared → Prop) n s₀ s₁) (gProto h₀ L' l I ol (gVal xs) N) (N - i) (.send .none) s'') ∧
          (i = 0 → h₁.objs.size = I) ∧ m = N + 1 - i := by
        rintro ⟨h₅, tk₅, m₅, news₅, nx₅, rfl, F₅, N₅, hn₅, ho₅, ha₅, hJ₅⟩
        refine ⟨N + 1 - (i + 1), by omega, h₅, tk₅, gs', m₅, nx₅, i + 1, [(L', oL'), (I, oI')], rfl, hb', F₅, fun p hp => ?_, ?_, ha₅, hJ₅, fun hi1 s'' k1 k2 k3 _ => ?_, fun h => by omega, rfl⟩
        · rcases List.mem_append.mp hp with hp | hp
          · exact N₅ p (hn₅ p hp)
          · exact N₅ p (ho₅ p hp)
        · intro p hp
          simp only [List.mem_cons, List.not_mem_nil, or_false] at hp
          rcases hp with rfl | rfl
          · exact .inl rfl
          · exact .inr rfl
        · rcases hkap with h0 | hkap
          · omega
          · have := hkap s'' k1 (k3 _ (.head _)) (k3 _ (.tail _ (.head _))) k2
            rw [show N - (i + 1) = n by omega]
            exact this
      cases f with
      | ret v => exact h₄
      | brk => exact h₄
      | next => exact fin h₄
      | cont => exact fin h₄
  · rcases List.mem_append.mp hp with hp | hp
    · exact NW p (.tail _ (.tail _ hp))
    · rcases List.mem_cons.mp hp with rfl | hp
      · exact NW _ (.tail _ (.head _))
      · rcases List.mem_cons.mp hp with rfl | hp
        · exact ⟨ea, Nat.ne_of_gt (Nat.lt_trans hLc hLa), ha0⟩
        · rw [List.mem_singleton.mp hp]; exact NW _ (.head _)
  · have := hready (N - 1) A.in1 (fun n s₀ r s₁ => r = .ok .next ∧ (fun _ _ _ => False : Nat → Shared → Shared → Prop) n s₀ s₁) s'' k1 (k3 _ (.head _)) k2
    rw [k4 rfl, show N - 1 + 1 = N by omega] at this
    exact this
end
end Mine
end

section
open PySem PySem.W PyProof.Rows
set_option maxRecDepth 100000
set_option maxHeartbeats 8000000
namespace Mine
example : PySem.Challenge.rw_ph0009_01 = PySem.Challenge.rw_ph0009_01 ∧ hd.heap_39 = hd.heap_39 := by
  k_fill; exact ⟨rfl, rfl⟩
def marksF (xs : List Int) (total : Int) : Nat → Nat → Int → List Int
  | 0, _, _ => []
  | f + 1, i, last => if last + gVal xs i > total then [] else (last + gVal xs i) :: marksF xs total f (i + 1) (last + gVal xs i)
def leads (cut p : Nat) : List Int := if 0 < cut then [(cut : Int), (p : Int)] else [(p : Int)]
theorem gVal_in {xs : List Int} {i : Nat} (h0 : 0 < xs.length) (h : ∀ v ∈ xs, 0 < v ∧ v ≤ 100) : 0 < gVal xs i ∧ gVal xs i ≤ 100 := by
  unfold gVal
  rw [List.getD_eq_getElem?_getD, List.getElem?_eq_getElem (by omega)]
  exact h _ (List.getElem_mem _)
theorem allLt_mem {d : Nat} : ∀ {l : List (Addr × Obj)}, AllLt d l → ∀ p ∈ l, p.1 < d
  | [], _, _, h => nomatch h
  | _ :: _, x, p, h => by
    rcases List.mem_cons.mp h with rfl | h
    · exact x.1
    · exact allLt_mem x.2 p h
abbrev CtrG (w : World) (mean : ExcName → Option Value) (mg mb : Str → Option Value) (d : Nat) (f : Addr) (news : List (Addr × Obj)) (vs : List Value) (res : List Int) : Prop :=
  ∀ (dp un : Nat) (gd : Option (List Code)) (cn : Str) (cs : Scope) (a : Addr) (ccd : Value) (cl : List (Str × Addr)) (outer : List Env) (A₀ : Around) (base h₀ : Heap) (L : Addr) (m : Str → Option Value) (s : Shared) (Q E : Value → Shared → Prop),
    Below A₀ base outer h₀ → Fr h₀ L s.heap m → (hd.heap_39 w.params).In h₀ → News h₀ L s.heap news → Top hd.view_39 (looseW hd.view_39 []) mean mg mb h₀ → cs.kind = .function → dp + d < recursionLimit → un + 10 * d < cLine →
    (∀ (D : Addr) (ys : List Value) (n : Nat) (h' : Heap) (tk' : Nat) (gs : GenState), gs.bare = true → IntsAre ys res → Fr h₀ L h' m → News h₀ L h' ((D, listOf ys.toArray n) :: news) → (∀ p ∈ news, p.1 ≠ D) → Q (.ref D) { s with gens := s.gens.push gs, heap := h', toks := tk' }) →
      wpN (model PySem.Challenge.rw_ph0009_01.row.prog w) (ktrTop dp un gd cn cs L a ccd cl outer) (call (.ref f) vs) Q E s
local macro_rules | `(tactic| walk_at "eval ListComp") => `(tactic| refine Hold.out ?_)
local macro_rules | `(tactic| walk_at "call ref") => `(tactic| refine Hold.out ?_)
theorem marks_ok (w : World) (mean : ExcName → Option Value) (mg mb : Str → Option Value) (cut p total : Nat) (t1 t2 t3 : Tok) (news : List (Addr × Obj)) (hc : cut ≤ 100) (hp : 0 < p) (hp2 : p ≤ 100) (ht : total ≤ 1000) :
  CtrG w mean mg mb 2 57 news [.int cut t1, .int p t2, .int total t3] (marksF (leads cut p) total (total + 1) 0 0) := by
  intro dp un gd cn cs a ccd cl outer A₀ base h₀ L m s Q E hB hF hK hN hT hk hdp hun hret
  refine wpN_call ?_
  k_dflt (refine' code_defN ?k1 ?k2 ?k3 ?k4 ?k5 ?kA ?kF ?kK ?k6 ?k7 ?k8 ?k9 ?kB ?_ ?c2 ?c3 ?c4 ?c5; (case kA => exact rfl); (case kF => exact rfl); (case kK => assumption); (case k1 => k_asm); (case k2 => k_asm); (case k3 => k_asm); (case k4 => k_asm); (case k5 => k_asm); (case k6 => k_is); (case k7 => k_is); (case k8 => ktr_room); (case k9 => exact BindsTo.of_eq rfl); (case c5 => decide); (case kB => exact locs rfl); (case c2 => exact rfl); (case c3 => exact rfl); (case c4 => exact rfl); k_whole; intro g' L' h' FG' F1 N1 B' X' T'; (try dsimp only); (try k_lift B'))
  refine wpN_body (fun Q' => ∀ (D : Addr) (ys : List Value) (n : Nat) (h2 : Heap) (tk : Nat) (gs : GenState) (m2 : Str → Option Value), gs.bare = true → IntsAre ys (marksF (leads cut p) total (total + 1) 0 0) → Fr g' L' h2 m2 → News g' L' h2 ((D, listOf ys.toArray n) :: news) → (∀ p ∈ news, p.1 ≠ D) → Q' (.ret (.ref D)) { s with gens := s.gens.push gs, heap := h2, toks := tk }) ?_ (by passes_own) ?_
  · exact fun D ys n h2 tk gs m2 hb hi F2 N2 hne => leaveK_ F2 N2 fun kF kN => hret D ys n h2 tk gs hb hi kF kN hne
  intro Q' E' hQ' hE'
  refine holdN_cons ?_
  k_steps
  refine ⟨wpN_execs_cons ?_⟩
  rename Fr _ _ _ _ => F2
  rename News _ _ _ _ => N2
  rename (∀ p ∈ news, p.1 < _) => l1
  rename_i D _ _
  generalize (s.toks + _ : Nat) = t0 at N2
  have hDn : ∀ p ∈ news, p.1 ≠ D := fun p hp => Nat.ne_of_lt (l1 p hp)
  refine for_genN (σ := List Value × Nat × List Int × Int) (xs := leads cut p) (N := total + 2) (fun c => (D, listOf c.1.toArray c.2.1) :: news) (fun c => []) [] (fun i c => IntsAre c.1 c.2.2.1 ∧ c.2.2.1.length = i + 1 ∧ c.2.2.1.getLast? = some c.2.2.2 ∧ (i : Int) ≤ c.2.2.2 ∧ c.2.2.2 ≤ total ∧ c.2.2.1.drop 1 ++ marksF (leads cut p) total (total + 1 - i) i c.2.2.2 = marksF (leads cut p) total (total + 1) 0 0) ([.int 0 t0], 0, [0], 0) F2 rfl rfl rfl ?room (T'.nolimit) (wpAny_ofH ?hit) (fun _ h => nomatch h) ?p0 ?pN ?turn
  case hit =>
    by_cases hcut : 0 < cut
    · have hle : leads cut p = [(cut : Int), (p : Int)] := by unfold leads; rw [if_pos hcut]
      rw [hle]
      k_steps
      rename Fr _ _ _ _ => F3
      rename News _ _ _ _ => N3
      refine ⟨LCt.ListComp_T F3 rfl (by decide) rfl (by decide) rfl (wpAny_ofH ?_)⟩
      k_steps
      rename Fr _ _ _ _ => F4
      rename News _ _ _ _ => N4
      refine ⟨LCt.CompSrcT.ledger rfl F4 N4 (.head _) (by rw [sizeLine_eq]; exact Nat.le_of_ble_eq_true rfl) fun g => ?_⟩
      refine rest_eachT (fun i ys => ys = if i = 0 then [] else [.int cut t1]) rfl ?tn ?fn
      case tn =>
        intro i v I oI C oC D' m₂ ys h tk E' hi hJ hv hC hx F N off ne
        obtain rfl : i = 0 := by simpa using hi
        obtain rfl : Value.int cut t1 = v := by simpa using hv
        obtain rfl : ys = [] := hJ
        refine wpAny_ofH ?_
        k_steps
        refine ⟨?_⟩
        rw [if_pos (by simp only [decide_eq_true_eq]; omega)]
        refine wpAny_ofH ?_
        k_steps
        exact ⟨⟨h, _, _, rfl, F, N, off, .inr ⟨_, .head _, rfl, _, rfl⟩, rfl, rfl⟩⟩
      case fn =>
        intro ys hJ D2 h tk F N ho
        obtain rfl : ys = [.int cut t1] := hJ
        k_steps
        rename Fr _ _ _ _ => F5
        rename News _ _ _ _ => N5
        refine ⟨?_⟩
        rename (_ < _ ∧ _ < _ ∧ _ < _ ∧ _ < _ ∧ AllLt _ news) => l5
        k_dflt (refine' group_ok w mean mg mb _ _ 0 [(cut : Int), (p : Int)] _ (.head _) (.cons _ _ (.cons _ _ (.cons _ _ .nil))) ?hx (by simp) (by simp) _ _ _ _ _ _ _ _ _ g' L' _ _ _ _ F5 X' N5 T' ?_ ?_)
        case hx => intro v hv; simp at hv; omega
        · show dp + 1 + 1 < recursionLimit; omega
        intro a' L2 oL c h6 tk6 hLa hltn F6 N6 hgen hLL hsz hlim hready
        refine ⟨⟨a', L2, oL, _, _, c, h6, tk6, rfl, rfl, hLa, fun q hq => ?_, F6, fun q hq => ?_, hgen, hLL, hsz, fun q hq => ?_, hready⟩⟩
        · rcases List.mem_cons.mp hq with rfl | hq
          · exact hltn _ (.head _)
          · exact hltn q (.tail _ (.tail _ (.tail _ (.tail _ hq))))
        · rcases List.mem_cons.mp hq with rfl | hq
          · exact N6 _ (.head _)
          · rcases List.mem_cons.mp hq with rfl | hq
            · exact N6 _ (.tail _ (.head _))
            · exact N6 _ (.tail _ (.tail _ (.tail _ (.tail _ (.tail _ hq)))))
        · rcases List.mem_cons.mp hq with rfl | hq
          · exact Nat.ne_of_lt l5.2.2.2.1
          · exact Nat.ne_of_lt (allLt_mem l5.2.2.2.2 q hq)
    · have hle : leads cut p = [(p : Int)] := by unfold leads; rw [if_neg hcut]
      rw [hle]
      k_steps
      rename Fr _ _ _ _ => F3
      rename News _ _ _ _ => N3
      refine ⟨LCt.ListComp_T F3 rfl (by decide) rfl (by decide) rfl (wpAny_ofH ?_)⟩
      k_steps
      rename Fr _ _ _ _ => F4
      rename News _ _ _ _ => N4
      refine ⟨LCt.CompSrcT.ledger rfl F4 N4 (.head _) (by rw [sizeLine_eq]; exact Nat.le_of_ble_eq_true rfl) fun g => ?_⟩
      refine rest_eachT (fun i ys => ys = if i = 0 then [] else []) rfl ?tn ?fn
      case tn =>
        intro i v I oI C oC D' m₂ ys h tk E' hi hJ hv hC hx F N off ne
        obtain rfl : i = 0 := by simpa using hi
        obtain rfl : Value.int cut t1 = v := by simpa using hv
        obtain rfl : ys = [] := hJ
        refine wpAny_ofH ?_
        k_steps
        refine ⟨?_⟩
        rw [if_neg (by simp only [decide_eq_true_eq]; omega)]
        exact ⟨h, _, _, rfl, F, N, off, .inr ⟨_, .head _, rfl, _, rfl⟩, rfl, rfl⟩
      case fn =>
        intro ys hJ D2 h tk F N ho
        obtain rfl : ys = [] := hJ
        k_steps
        rename Fr _ _ _ _ => F5
        rename News _ _ _ _ => N5
        refine ⟨?_⟩
        rename (_ < _ ∧ _ < _ ∧ _ < _ ∧ _ < _ ∧ AllLt _ news) => l5
        k_dflt (refine' group_ok w mean mg mb _ _ 0 [(p : Int)] _ (.head _) (.cons _ _ (.cons _ _ .nil)) ?hx (by simp) (by simp) _ _ _ _ _ _ _ _ _ g' L' _ _ _ _ F5 X' N5 T' ?_ ?_)
        case hx => intro v hv; simp at hv; omega
        · show dp + 1 + 1 < recursionLimit; omega
        intro a' L2 oL c h6 tk6 hLa hltn F6 N6 hgen hLL hsz hlim hready
        refine ⟨⟨a', L2, oL, _, _, c, h6, tk6, rfl, rfl, hLa, fun q hq => ?_, F6, fun q hq => ?_, hgen, hLL, hsz, fun q hq => ?_, hready⟩⟩
        · rcases List.mem_cons.mp hq with rfl | hq
          · exact hltn _ (.head _)
          · exact hltn q (.tail _ (.tail _ (.tail _ (.tail _ hq))))
        · rcases List.mem_cons.mp hq with rfl | hq
          · exact N6 _ (.head _)
          · rcases List.mem_cons.mp hq with rfl | hq
            · exact N6 _ (.tail _ (.head _))
            · exact N6 _ (.tail _ (.tail _ (.tail _ (.tail _ (.tail _ hq)))))
        · rcases List.mem_cons.mp hq with rfl | hq
          · exact Nat.ne_of_lt l5.2.2.2.1
          · exact Nat.ne_of_lt (allLt_mem l5.2.2.2.2 q hq)
  case room => ktr_room
  case p0 => exact ⟨.cons _ _ .nil, rfl, rfl, by simp, by simp, rfl⟩
  case pN => intro i c hP; have := hP.2.2.2; omega
  case turn =>
    rintro ⟨ys, ne, acc, last⟩ i t u h tk own gs hoff ⟨hI, hlen, hlast, hil, hlt, hS⟩ hb F3 N3
    dsimp only at hI hlen hlast hil hlt hS N3
    have hg := gVal_in (xs := leads cut p) (i := i) (by unfold leads; split <;> simp) (by unfold leads; intro v hv; split at hv <;> simp at hv <;> omega)
    obtain ⟨hg1, hg2⟩ := hg
    have hq : acc.getD (-1 + (acc.length : Int)).toNat 0 = last := by
      rw [show (-1 + (acc.length : Int)).toNat = acc.length - 1 by omega, List.getD_eq_getElem?_getD, ← List.getLast?_eq_getElem?, hlast]
      rfl
    obtain ⟨f, hf⟩ : ∃ f, total + 1 - i = f + 1 := ⟨total - i, by omega⟩
    rw [hf] at hS
    replace hS : acc.drop 1 ++ (if last + gVal (leads cut p) i > total then [] else (last + gVal (leads cut p) i) :: marksF (leads cut p) total f (i + 1) (last + gVal (leads cut p) i)) = marksF (leads cut p) total (total + 1) 0 0 := hS
    simp only [List.cons_append] at N3
    generalize hgv : gVal (leads cut p) i = gv at F3 hg1 hg2
    refine wpN_of (wpAny_ofH ?_)
    k_steps
    · rename ((total : Int) < _) => hgt
      rw [hq] at hgt
      rw [hgv, if_pos hgt, List.append_nil] at hS
      dsimp only
      refine ⟨?_⟩
      dsimp only [InvPostN]
      refine holdN_cons ?_
      k_steps
      rename Fr _ _ _ _ => F6
      rename News _ _ _ _ => N6
      rename IntsAre _ (List.drop 1 acc) => hI6
      rename (_ < _ ∧ AllLt _ (news ++ own)) => l6
      refine ⟨?_⟩
      dsimp only
      rw [hS] at hI6
      exact hQ' _ _ _ _ _ gs _ hb hI6 F6 (fun q hq => by
        rcases List.mem_cons.mp hq with rfl | hq
        · exact N6 _ (.head _)
        · exact N6 q (.tail _ (.tail _ (List.mem_append_left _ hq)))) (fun q hq => Nat.ne_of_lt (allLt_mem l6.2 q (List.mem_append_left _ hq)))
    · rename (¬ (total : Int) < _) => hgt
      rw [hq] at hgt
      rw [hgv, if_neg hgt] at hS
      rw [hq]
      have hyl : ys.toArray.size ≤ sizeLine := by rw [List.size_toArray, hI.length, sizeLine_eq]; omega
      have hD : ∀ p ∈ news ++ own, p.1 ≠ D := fun p hp => by
        rcases List.mem_append.mp hp with hp | hp
        · exact hDn p hp
        · exact hoff p hp D (by simp)
      generalize hxv : Value.int (last + gv) _ = xv
      obtain ⟨t9, rfl⟩ : ∃ t9, xv = .int (last + gv) t9 := ⟨_, hxv.symm⟩
      clear hxv
      refine append_K F3 N3 (Upd.head hD) (fun h4 F4 N4 => ?_) hyl
      k_steps
      rw [List.push_toArray] at N4
      refine ⟨kst_end (ys ++ [.int (last + gv) t9], ne + 1, acc ++ [last + gv], last + gv) F4 N4 (fun p hp => ?_) (fun p hp => ?_) rfl trivial (fun _ h => nomatch h) ?_ ⟨ints_snoc hI, ?_, ?_, ?_, ?_, ?_⟩⟩
      · rcases List.mem_cons.mp hp with rfl | hp
        · exact .head _
        · exact .tail _ (List.mem_append_left _ hp)
      · exact .tail _ (List.mem_append_right _ hp)
      · (intro z h1 h2 h3; simp [kstB, h1])
      · show (acc ++ [last + gv]).length = i + 1 + 1
        rw [List.length_append, hlen]; rfl
      · show (acc ++ [last + gv]).getLast? = some (last + gv)
        simp
      · show ((i + 1 : Nat) : Int) ≤ last + gv
        omega
      · show last + gv ≤ total
        omega
      · show (acc ++ [last + gv]).drop 1 ++ marksF (leads cut p) total (total + 1 - (i + 1)) (i + 1) (last + gv) = _
        rw [← hS, List.drop_append_of_le_length (by omega), List.append_assoc, show total + 1 - (i + 1) = f by omega]
        rfl
end Mine
end

section
open PySem PySem.W PyProof.Rows
set_option maxRecDepth 100000
set_option maxHeartbeats 8000000
namespace Mine
def lawDef : List Stmt × Scope := match PySem.Challenge.pw_ph0009_01.main.body.getLast? with
  | some (.FunctionDef _ _ b _ _ _ sc _ _ _) => (b, sc)
  | _ => ([], default)
def lawStmt (k : Nat) : Stmt := lawDef.1.getD k (.Pass default)
def lawRest (k : Nat) : List Stmt := lawDef.1.drop k
def lawScopeS : (x : Scope) ×' x = lawDef.2 := by
  refine ⟨?x, ?h⟩
  case h =>
    conv => rhs; whnf
def lawScope : Scope := lawScopeS.1
example : lawScope = lawDef.2 := lawScopeS.2
abbrev lawCells (L : Addr) : List (Str × Addr) := [("period", L + 10), ("near", L + 9), ("cut", L + 8), ("longer", L + 7), ("octets", L + 6), ("plain", L + 5), ("root", L + 4), ("total", L + 3), ("second", L + 2), ("first", L + 1)]
example (L) : lawCells L = cellsFrom (L + 1) lawScope.names [] := by rfl
abbrev lawEnv (L : Addr) : Env := envX "law" lawScope L 74 (.ref 73) (lawCells L)
abbrev lawA (L : Addr) : Around := ktrTop (1 + claimMargin + 1) (callerA.deeper (lawEnv L)).units (callerA.deeper (lawEnv L)).guards "law" lawScope L 74 (.ref 73) (lawCells L) []
example (L) : callerA.deeper (lawEnv L) = lawA L := by rfl
end Mine
end

section
open PySem PySem.W PyProof.Rows
set_option maxRecDepth 100000
set_option maxHeartbeats 8000000
namespace Mine
example : PySem.Challenge.rw_ph0009_01 = PySem.Challenge.rw_ph0009_01 ∧ hd.heap_39 = hd.heap_39 := by
  k_fill; exact ⟨rfl, rfl⟩
local macro_rules | `(tactic| walk_at "eval ListComp") => `(tactic| refine Hold.out ?_)
local macro_rules | `(tactic| walk_at "exec Assign cons ListComp") => `(tactic| refine Hold.out ?_)
local macro_rules | `(tactic| walk_at "call builtin:sum") => `(tactic| refine Hold.out ?_)
local macro_rules | `(tactic| walk_at "call ref") => `(tactic| refine Hold.out ?_)
theorem pick_ints {vs : List Value} {ns : List Int} (hi : IntsAre vs ns) (l : List Nat) : ∃ ms, IntsAre (l.filterMap (vs.toArray[·]?)) ms ∧ (∀ x ∈ ms, x ∈ ns) ∧ ms.length ≤ l.length := by
  induction l with
  | nil => exact ⟨[], .nil, (fun _ h => nomatch h), Nat.le_refl _⟩
  | cons k r ih =>
    obtain ⟨ms, h1, h2, h3⟩ := ih
    rw [List.filterMap_cons]
    cases hk : vs.toArray[k]? with
    | none => exact ⟨ms, h1, h2, Nat.le_succ_of_le h3⟩
    | some v =>
      obtain ⟨z, t, rfl, hz⟩ := IntsAre.at hi k v (by simpa using hk)
      exact ⟨z :: ms, .cons z t h1, fun x hx => by
        rcases List.mem_cons.mp hx with rfl | hx
        · exact List.mem_of_getElem? hz
        · exact h2 x hx, Nat.succ_le_succ h3⟩
theorem sum_in {ms : List Int} {b : Int} (h : ∀ z ∈ ms, 0 ≤ z ∧ z ≤ b) : 0 ≤ ms.sum ∧ ms.sum ≤ ms.length * b := by
  induction ms with
  | nil => simp
  | cons x r ih =>
    have h1 := ih fun z hz => h z (.tail _ hz)
    have h2 := h x (.head _)
    rw [List.sum_cons, List.length_cons]
    have : ((r.length + 1 : Nat) : Int) * b = r.length * b + b := by push_cast; rw [Int.add_mul, Int.one_mul]
    rw [this]
    omega
theorem sum_pick {vs : List Value} {zs : List Int} (hi : IntsAre vs zs) (hr : ∀ z ∈ zs, 0 ≤ z ∧ z < 1000000) (hz : zs.length ≤ 60) (lo hi' st : Option Int) : ∃ ms, IntsAre (slicePick vs.toArray lo hi' st).toList ms ∧ 0 ≤ ms.sum ∧ ms.sum ≤ 60000000 := by
  obtain ⟨ms, h1, h2, _⟩ := pick_ints hi (sliceRange (sliceBounds lo hi' st vs.toArray.size).1 (sliceBounds lo hi' st vs.toArray.size).2.1 (sliceBounds lo hi' st vs.toArray.size).2.2)
  have hl : ms.length ≤ 60 := by
    have q := slicePick_size_le vs.toArray lo hi' st
    have e : (slicePick vs.toArray lo hi' st).size = ms.length := by rw [← h1.length]; rfl
    rw [e, List.size_toArray, hi.length] at q
    omega
  have h3 := sum_in (b := 1000000) (ms := ms) fun z hz => by have := hr z (h2 z hz); omega
  refine ⟨ms, h1, h3.1, ?_⟩
  have : (ms.length : Int) * 1000000 ≤ 60 * 1000000 := Int.mul_le_mul_of_nonneg_right (by omega) (by decide)
  omega
theorem lawR (k : Nat) (h : k < 25) : lawRest k = lawStmt k :: lawRest (k + 1) := by
  have hl : lawDef.1.length = 25 := by rfl
  unfold lawRest lawStmt
  rw [List.drop_eq_getElem_cons (by omega), List.getD_eq_getElem?_getD, List.getElem?_eq_getElem (by omega)]
  rfl
theorem pw_pos {k : Nat} {p : Int} (h : (64 : Int) ^ k = p) : 0 < p := h ▸ Int.pow_pos (by decide)
def LawB (w : World) (h₀ : Heap) (L : Addr) (s : Shared) (Q : Flow → Shared → Prop) (E : Value → Shared → Prop) : Prop :=
  ∀ (P : Addr) (vs : List Value) (ks ls : List Int) (ob lb : Array UInt8) (t1 t2 t3 : Tok) (o1 o2 o3 o4 o5 o6 o7 o8 o9 o10 : Obj) (m : Str → Option Value) (h : Heap) (tk n : Nat), 2 ≤ n → n ≤ 8 → ks.length = n → ls.length ≤ 100 → (∀ k ∈ ks, 0 ≤ k ∧ k < 256) → IntsAre vs ks → KBw.bInts ob = ks → KBw.bInts lb = ls → (@Ne Nat (L + 10) P ∧ @Ne Nat (L + 9) P ∧ @Ne Nat (L + 8) P ∧ @Ne Nat (L + 7) P ∧ @Ne Nat (L + 6) P ∧ @Ne Nat (L + 5) P ∧ @Ne Nat (L + 4) P ∧ @Ne Nat (L + 3) P ∧ @Ne Nat (L + 2) P ∧ @Ne Nat (L + 1) P) →
    o3.data = .cell (some (.int (n : Int) t1)) → o5.data = .cell (some (.ref P)) → o6.data = .cell (some (.bytes ob t2)) → o7.data = .cell (some (.bytes lb t3)) → o8.data = .cell none → o9.data = .cell none → o10.data = .cell none →
    Fr h₀ L h m → News h₀ L h [(P, LCg.lst vs), (L + 10, o10), (L + 9, o9), (L + 8, o8), (L + 7, o7), (L + 6, o6), (L + 5, o5), (L + 4, o4), (L + 3, o3), (L + 2, o2), (L + 1, o1)] → wpN (model PySem.Challenge.rw_ph0009_01.row.prog w) (lawA L) (execs (lawRest 11) (lawEnv L)) Q E { s with heap := h, toks := tk }
local macro_rules | `(tactic| walk_at "binaryOp Pow int int") => `(tactic| ((with_reducible refine pow_int_small ?kb1 ?kb2 ?kb3 ?_); (case kb1 => omega); (case kb2 => omega); (case kb3 => decide); (generalize hp64 : (64 : Int) ^ Int.toNat _ = p64); have hpp64 := pw_pos hp64))
theorem segA3 (w : World) (mean : ExcName → Option Value) (mg mb : Str → Option Value) (h₀ : Heap) (L P : Addr) (ys7 : List Value) (ks : List Int) (s : Shared) (h12 : Heap) (tk12 : Nat) (m : Str → Option Value) (o1 o2 o3 o4 o5' o6' o7' o8 o9 o10 : Obj) (q3 : Int) (n : Nat) (oct : Array UInt8) (tv3 tv4 tb tl : Tok) (Q : Flow → Shared → Prop) (E : Value → Shared → Prop)
    (hK : (hd.heap_39 w.params).In h₀) (hT : Top hd.view_39 (looseW hd.view_39 []) mean mg mb h₀) (hn2 : 2 ≤ n) (hn8 : n ≤ 8) (hkl : ks.length = n) (hkr : ∀ k ∈ ks, 0 ≤ k ∧ k < 256) (hI7 : IntsAre ys7 ks) (hoct : KBw.bInts oct = ks) (hq3 : 0 ≤ q3 ∧ q3 ≤ 100000000) (hP : @Ne Nat (L + 10) P ∧ @Ne Nat (L + 9) P ∧ @Ne Nat (L + 8) P ∧ @Ne Nat (L + 7) P ∧ @Ne Nat (L + 6) P ∧ @Ne Nat (L + 5) P ∧ @Ne Nat (L + 4) P ∧ @Ne Nat (L + 3) P ∧ @Ne Nat (L + 2) P ∧ @Ne Nat (L + 1) P) (hm : m (Str.ofString "third") = some (.int q3 tv3))
    (F12 : Fr h₀ L h12 m) (N12 : News h₀ L h12 [(P, LCg.lst ys7), (L + 10, o10), (L + 9, o9), (L + 8, o8), (L + 7, o7'), (L + 6, o6'), (L + 5, o5'), (L + 4, o4), (L + 3, o3), (L + 2, o2), (L + 1, o1)])
    (d3 : o3.data = .cell (some (.int (n : Int) tv4))) (d5' : o5'.data = .cell (some (.ref P))) (d6' : o6'.data = .cell (some (.bytes oct tb))) (d7' : o7'.data = .cell (some (.bytes #[] tl))) (d8 : o8.data = .cell none) (d9 : o9.data = .cell none) (d10 : o10.data = .cell none)
    (hB : LawB w h₀ L s Q E) :
    wpN (model PySem.Challenge.rw_ph0009_01.row.prog w) (lawA L) (execs (lawRest 10) (lawEnv L)) Q E { s with heap := h12, toks := tk12 } := by
  rw [at_name hm] at F12
  rw [lawR 10 (by decide)]
  conv in lawStmt _ => whnf
  refine wpN_execs_cons ?_
  have hob : oct.size ≤ 8 := by rw [← KBw.ints_length, hoct]; omega
  refine for_rngN (σ := Array UInt8 × Tok × Obj) (a := 0) (st := 1) (n := 3) (fun c => [(P, LCg.lst ys7), (L + 10, o10), (L + 9, o9), (L + 8, o8), (L + 7, c.2.2), (L + 6, o6'), (L + 5, o5'), (L + 4, o4), (L + 3, o3), (L + 2, o2), (L + 1, o1)]) (fun _ => []) [] (fun i c => c.2.2.data = .cell (some (.bytes c.1 c.2.1)) ∧ c.1.size ≤ 16 * i) (#[], tl, o7') F12 rfl rfl rfl (wpAny_ofH ?hit) (fun _ h => nomatch h) ⟨d7', Nat.le_refl _⟩ ?trn ?done
  case hit =>
    k_steps
    rename Fr _ _ _ _ => F13
    rename News _ _ _ _ => N13
    rename IsRange _ _ _ _ _ _ _ _ => hr
    exact ⟨⟨_, _, _, _, _, _, _, rfl, rfl, hr, small_one (by omega) (by omega) (by omega) (by omega), by rw [rangeSize_nat]; rfl, F13, N13⟩⟩
  case trn =>
    rintro ⟨b, tbb, ob⟩ i t u h tk own hi hoff ⟨hd, hbz⟩ F13 N13
    dsimp only at hd hbz
    have e1 : (0 + (i : Int) * 1) = (i : Int) := by omega
    rw [e1] at F13
    clear e1
    simp only [List.cons_append, List.nil_append] at N13
    have hall : ∀ p ∈ (L + 6, o6') :: (L + 5, o5') :: (L + 4, o4) :: (L + 3, o3) :: (L + 2, o2) :: (L + 1, o1) :: own, p.1 ≠ L + 7 := by
      intro p hp
      simp only [List.mem_cons] at hp
      rcases hp with rfl | rfl | rfl | rfl | rfl | rfl | hp
      · k_ne
      · k_ne
      · k_ne
      · k_ne
      · k_ne
      · k_ne
      · exact hoff p hp (L + 7) (by simp)
    focus
      refine wpN_of (wpAny_ofH ?_)
      k_steps
      refine KBy.add_bytes (Nat.le_trans (Nat.add_le_add hbz (KBc.size_picked_le _ _ _)) (by omega)) (fun tA kA => ?_)
      dsimp only
      k_steps
      refine KBy.add_bytes (Nat.le_trans (Nat.add_le_add (by rw [Array.size_append]; exact Nat.add_le_add hbz (KBc.size_picked_le _ _ _)) (KBc.size_picked_le _ _ _)) (by omega)) (fun tB kB => ?_)
      dsimp only
      k_steps
      rename Obj => ob9
      rename (ob9.data = _) => d15
      rename Fr _ _ _ _ => F15
      rename News _ _ _ _ => N15
      refine ⟨kst_end (_, _, ob9) F15 N15 (fun p hp => ?_) (fun p hp => ?_) rfl trivial (fun _ h => nomatch h) ?_ ⟨d15, ?_⟩⟩
      · simp only [List.mem_cons, List.not_mem_nil, or_false] at hp ⊢
        rcases hp with h | h | h | h | h | h | h | h | h | h | h <;> simp [h]
      · simp only [List.mem_cons]
        simp [hp]
      · intro z h1 h2 h3
        simp [kstB, h1]
      · exact Nat.le_trans (by rw [Array.size_append, Array.size_append]; exact Nat.add_le_add (Nat.add_le_add hbz (KBc.size_picked_le _ _ _)) (KBc.size_picked_le _ _ _)) (by omega)
  case done =>
    rintro ⟨lb, tl2, ol⟩ u h tk ⟨hd, hlz⟩ F13 N13
    dsimp only at hd hlz
    dsimp only
    exact hB P ys7 ks (KBw.bInts lb) oct lb _ _ _ o1 o2 o3 o4 o5' o6' ol o8 o9 o10 _ h tk n hn2 hn8 hkl (by rw [KBw.ints_length]; omega) hkr hI7 hoct rfl hP d3 d5' d6' hd d8 d9 d10 F13 N13
end Mine
end

section
open PySem PySem.W PyProof.Rows
set_option maxRecDepth 100000
set_option maxHeartbeats 8000000
namespace Mine
example : PySem.Challenge.rw_ph0009_01 = PySem.Challenge.rw_ph0009_01 ∧ hd.heap_39 = hd.heap_39 := by
  k_fill; exact ⟨rfl, rfl⟩
local macro_rules | `(tactic| walk_at "eval ListComp") => `(tactic| refine Hold.out ?_)
local macro_rules | `(tactic| walk_at "exec Assign cons ListComp") => `(tactic| refine Hold.out ?_)
local macro_rules | `(tactic| walk_at "call builtin:sum") => `(tactic| refine Hold.out ?_)
local macro_rules | `(tactic| walk_at "call ref") => `(tactic| refine Hold.out ?_)
theorem segA2 (w : World) (mean : ExcName → Option Value) (mg mb : Str → Option Value) (h₀ : Heap) (L D5 : Addr) (ys5 : List Value) (zs5 : List Int) (s : Shared) (m : Str → Option Value) (o1 o2 o3 o4 o5 o6 o7 o8 o9 o10 : Obj) (f q2 q3 : Int) (n : Nat) (tv1 tv2 tv3 tv4 : Tok) (Q : Flow → Shared → Prop) (E : Value → Shared → Prop)
    (hK : (hd.heap_39 w.params).In h₀) (hT : Top hd.view_39 (looseW hd.view_39 []) mean mg mb h₀) (hn2 : 2 ≤ n) (hn8 : n ≤ 8) (hz5 : IntsAre ys5 zs5) (hzr5 : ∀ z ∈ zs5, 0 ≤ z ∧ z < 3) (hl5 : 1 ≤ zs5.length ∧ zs5.length ≤ 4) (hf0 : 0 ≤ f ∧ f ≤ 100000000) (hq2 : 0 ≤ q2 ∧ q2 ≤ 100000000) (hq3 : 0 ≤ q3 ∧ q3 ≤ 100000000) (hD5 : @Ne Nat (L + 10) D5 ∧ @Ne Nat (L + 9) D5 ∧ @Ne Nat (L + 8) D5 ∧ @Ne Nat (L + 7) D5 ∧ @Ne Nat (L + 6) D5 ∧ @Ne Nat (L + 5) D5 ∧ @Ne Nat (L + 4) D5 ∧ @Ne Nat (L + 3) D5 ∧ @Ne Nat (L + 2) D5 ∧ @Ne Nat (L + 1) D5) (hm : m (Str.ofString "third") = some (.int q3 tv3))
    (F : Fr h₀ L s.heap m) (N : News h₀ L s.heap [(D5, LCg.lst ys5), (L + 10, o10), (L + 9, o9), (L + 8, o8), (L + 7, o7), (L + 6, o6), (L + 5, o5), (L + 4, o4), (L + 3, o3), (L + 2, o2), (L + 1, o1)])
    (d1 : o1.data = .cell (some (.int f tv1))) (d2 : o2.data = .cell (some (.int q2 tv2))) (d3 : o3.data = .cell (some (.int (n : Int) tv4))) (d4 : o4.data = .cell (some (.ref D5))) (d5 : o5.data = .cell none) (d6 : o6.data = .cell none) (d7 : o7.data = .cell none) (d8 : o8.data = .cell none) (d9 : o9.data = .cell none) (d10 : o10.data = .cell none)
    (hB : LawB w h₀ L s Q E) :
    wpN (model PySem.Challenge.rw_ph0009_01.row.prog w) (lawA L) (execs (lawRest 6) (lawEnv L)) Q E s := by
  rw [at_name hm] at F
  rw [lawR 6 (by decide)]
  conv in lawStmt _ => whnf
  refine holdN_cons ?_
  k_steps
  refine ⟨LCg.Assign_ListComp_U F rfl (by with_unfolding_all rfl) (by with_unfolding_all rfl) (by decide) rfl (by decide) rfl rfl rfl (wpAny_ofH ?_)⟩
  k_steps
  rename IsRange _ _ _ _ _ _ _ _ => hr
  rename Fr _ _ _ _ => F7
  rename News _ _ _ _ => N7
  refine ⟨LCg.CompSrc.range rfl F7 N7 hr (small_one (by omega) (by omega) (by omega) (by omega)) (rangeSize_nat _ _) (by rw [sizeLine_eq]; omega) fun g => ?_⟩
  refine rest_ints 0 4 ?t6 ?f6
  case t6 =>
    intro i v I oI C oC D' m₂ ys' h tk E' hi' hv hC hx F N off ne
    obtain ⟨t, rfl⟩ := hv
    have e0 : (0 + (i : Int)) = (i : Int) := by omega
    rw [e0] at hx
    clear e0
    have hm0 := Int.fmod_nonneg_of_pos (i : Int) (show (0 : Int) < zs5.length by omega)
    have hm1 := Int.fmod_lt_of_pos (i : Int) (show (0 : Int) < zs5.length by omega)
    have hit : 0 ≤ zs5.getD ((i : Int).fmod zs5.length).toNat 0 ∧ zs5.getD ((i : Int).fmod zs5.length).toNat 0 < 3 := by
      rw [List.getD_eq_getElem?_getD, List.getElem?_eq_getElem (by omega)]
      exact hzr5 _ (List.getElem_mem _)
    refine wpAny_ofH ?_
    k_steps
    all_goals exact ⟨⟨h, _, _, rfl, F, N, off, trivial, rfl, _, _, rfl, by omega, by omega⟩⟩
  intro ys6 zs6 hz6 hzl6 hzr6 D6 h6 tk6 F8 N8 ho6
  simp only [LCg.Off1, and_true] at ho6
  replace hzl6 : zs6.length = n := by omega
  clear hr F7 N7
  refine ⟨?_⟩
  replace N8 : News h₀ L _ [(D6, LCg.lst ys6), (L + 10, o10), (L + 9, o9), (L + 8, o8), (L + 7, o7), (L + 6, o6), (L + 5, o5), (L + 4, o4), (L + 3, o3), (L + 2, o2), (L + 1, o1)] := fun p hp => N8 p ((by lcg_sub : ∀ p ∈ ([(D6, LCg.lst ys6), (L + 10, o10), (L + 9, o9), (L + 8, o8), (L + 7, o7), (L + 6, o6), (L + 5, o5), (L + 4, o4), (L + 3, o3), (L + 2, o2), (L + 1, o1)] : List (Addr × Obj)), p ∈ _) p hp)
  dsimp only
  rw [lawR (6+1) (by decide)]
  conv in lawStmt _ => whnf
  refine holdN_cons ?_
  k_steps
  refine ⟨wpAny_Assign_Name (LCg.ListComp_U F8 (by with_unfolding_all rfl) (by decide) rfl (by decide) rfl (wpAny_ofH ?_)) (by with_unfolding_all rfl)⟩
  k_steps
  rename Fr _ _ _ _ => F9
  rename News _ _ _ _ => N9
  refine ⟨LCg.CompSrc.ledger rfl F9 N9 (.head _) (by rw [List.size_toArray, hz6.length, sizeLine_eq]; omega) fun g => ?_⟩
  refine rest_ints 0 256 ?t7 ?f7
  case t7 =>
    intro i v I oI C oC D' m₂ ys' h tk E' hi' hv hC hx F N off ne
    obtain ⟨k, t, rfl, hk'⟩ := IntsAre.at hz6 i v (by simpa using hv)
    obtain ⟨hk0, hk1⟩ := hzr6 k (List.mem_of_getElem? hk')
    refine wpAny_ofH ?_
    k_steps
    exact ⟨⟨h, _, _, rfl, F, N, off, .inr ⟨_, .head _, rfl, _, rfl⟩, rfl, _, _, rfl, Int.fmod_nonneg_of_pos _ (by decide), Int.fmod_lt_of_pos _ (by decide)⟩⟩
  intro ys7 ks hI7 hkl hkr P h7 tk7 F10 N10 ho7
  simp only [LCg.Off1, and_true] at ho7
  replace hkl : ks.length = n := by rw [hkl, List.size_toArray, hz6.length, hzl6]
  clear F9 N9
  replace N10 : News h₀ L _ [(P, LCg.lst ys7), (L + 10, o10), (L + 9, o9), (L + 8, o8), (L + 7, o7), (L + 6, o6), (L + 5, o5), (L + 4, o4), (L + 3, o3), (L + 2, o2), (L + 1, o1)] := fun p hp => N10 p ((by lcg_sub : ∀ p ∈ ([(P, LCg.lst ys7), (L + 10, o10), (L + 9, o9), (L + 8, o8), (L + 7, o7), (L + 6, o6), (L + 5, o5), (L + 4, o4), (L + 3, o3), (L + 2, o2), (L + 1, o1)] : List (Addr × Obj)), p ∈ _) p hp)
  k_steps
  rename Obj => o5'
  rename (o5'.data = _) => d5'
  clear d5
  refine ⟨?_⟩
  dsimp only
  rw [lawR (6+1+1) (by decide)]
  conv in lawStmt _ => whnf
  refine holdN_cons ?_
  k_steps
  rename Obj => o6'
  rename (o6'.data = _) => d6'
  obtain ⟨tb, d6'⟩ : ∃ t, o6'.data = .cell (some (.bytes (byteArr ks) t)) := ⟨_, d6'⟩
  clear d6
  rename Fr _ _ _ _ => F11
  rename News _ _ _ _ => N11
  refine ⟨?_⟩
  dsimp only
  rw [lawR (6+1+1+1) (by decide)]
  conv in lawStmt _ => whnf
  refine holdN_cons ?_
  k_steps
  rename Obj => o7'
  rename (o7'.data = _) => d7'
  clear d7
  rename Fr _ _ _ _ => F12
  rename News _ _ _ _ => N12
  refine ⟨?_⟩
  exact segA3 w mean mg mb h₀ L P ys7 ks s _ _ _ o1 o2 o3 o4 o5' o6' o7' o8 o9 o10 q3 n (byteArr ks) _ _ _ _ Q E hK hT hn2 hn8 hkl hkr hI7 (KBa.ints_make hkr) hq3 ho7.2 rfl F12 N12 d3 d5' d6' d7' d8 d9 d10 hB
end Mine
end

section
open PySem PySem.W PyProof.Rows
set_option maxRecDepth 100000
set_option maxHeartbeats 8000000
namespace Mine
example : PySem.Challenge.rw_ph0009_01 = PySem.Challenge.rw_ph0009_01 ∧ hd.heap_39 = hd.heap_39 := by
  k_fill; exact ⟨rfl, rfl⟩
local macro_rules | `(tactic| walk_at "eval ListComp") => `(tactic| refine Hold.out ?_)
local macro_rules | `(tactic| walk_at "exec Assign cons ListComp") => `(tactic| refine Hold.out ?_)
local macro_rules | `(tactic| walk_at "call builtin:sum") => `(tactic| refine Hold.out ?_)
local macro_rules | `(tactic| walk_at "call ref") => `(tactic| refine Hold.out ?_)
theorem segA (w : World) (mean : ExcName → Option Value) (mg mb : Str → Option Value) (h₀ : Heap) (L l : Addr) (vs : List Value) (ns : List Int) (s : Shared) (m : Str → Option Value) (o1 o2 o3 o4 o5 o6 o7 o8 o9 o10 : Obj) (Q : Flow → Shared → Prop) (E : Value → Shared → Prop)
    (hK : (hd.heap_39 w.params).In h₀) (hT : Top hd.view_39 (looseW hd.view_39 []) mean mg mb h₀) (hl : h₀.IsList l vs.toArray) (hi : IntsAre vs ns) (hlen : ns.length ≤ 63) (hm : m (Str.ofString "script") = some (.ref l))
    (F : Fr h₀ L s.heap m) (N : News h₀ L s.heap [(L + 10, o10), (L + 9, o9), (L + 8, o8), (L + 7, o7), (L + 6, o6), (L + 5, o5), (L + 4, o4), (L + 3, o3), (L + 2, o2), (L + 1, o1)])
    (d1 : o1.data = .cell none) (d2 : o2.data = .cell none) (d3 : o3.data = .cell none) (d4 : o4.data = .cell none) (d5 : o5.data = .cell none) (d6 : o6.data = .cell none) (d7 : o7.data = .cell none) (d8 : o8.data = .cell none) (d9 : o9.data = .cell none) (d10 : o10.data = .cell none) (hB : LawB w h₀ L s Q E) :
    wpN (model PySem.Challenge.rw_ph0009_01.row.prog w) (lawA L) (execs (lawRest 0) (lawEnv L)) Q E s := by
  rw [at_name hm] at F
  rw [lawR 0 (by decide)]
  conv in lawStmt 0 => whnf
  refine holdN_cons ?_
  k_steps
  refine ⟨LCg.Assign_ListComp_U F rfl (by with_unfolding_all rfl) rfl (by decide) rfl (by decide) rfl rfl rfl (wpAny_ofH ?_)⟩
  k_steps
  rename Fr _ _ _ _ => F1
  rename News _ _ _ _ => N1
  rename IntsAre _ (List.take 60 ns) => hI1
  refine ⟨LCg.CompSrc.ledger rfl F1 N1 (.head _) (by rw [List.size_toArray, hI1.length, sizeLine_eq]; omega) fun g => ?_⟩
  refine rest_ints 0 1000000 ?t0 ?f0
  case t0 =>
    intro i v I oI C oC D m₂ ys h tk E' hi' hv hC hx F N off ne
    obtain ⟨k, t, rfl, hk'⟩ := IntsAre.at hI1 i v (by simpa using hv)
    refine wpAny_ofH ?_
    k_steps
    have hk0 := Int.fmod_nonneg_of_pos k (show (0 : Int) < 1000000 by decide)
    have hk1 := Int.fmod_lt_of_pos k (show (0 : Int) < 1000000 by decide)
    exact ⟨⟨h, _, _, rfl, F, N, off, .inr ⟨_, .head _, rfl, _, rfl⟩, rfl, _, _, rfl, hk0, hk1⟩⟩
  intro ys zs hz hzl hzr D h tk F2 N2 ho
  have hzl2 : zs.length ≤ 60 := by rw [hzl, List.size_toArray, hI1.length, List.length_take]; omega
  clear F1 N1 hI1
  simp only [LCg.Off1, and_true] at ho
  obtain ⟨_, ho⟩ := ho
  replace N2 : News h₀ L _ [(D, LCg.lst ys), (L + 10, o10), (L + 9, o9), (L + 8, o8), (L + 7, o7), (L + 6, o6), (L + 5, o5), (L + 4, o4), (L + 3, o3), (L + 2, o2), (L + 1, o1)] := fun p hp => N2 p ((by lcg_sub : ∀ p ∈ ([(D, LCg.lst ys), (L + 10, o10), (L + 9, o9), (L + 8, o8), (L + 7, o7), (L + 6, o6), (L + 5, o5), (L + 4, o4), (L + 3, o3), (L + 2, o2), (L + 1, o1)] : List (Addr × Obj)), p ∈ _) p hp)
  refine ⟨?_⟩
  dsimp only
  rw [lawR (0+1) (by decide)]
  conv in lawStmt _ => whnf
  refine holdN_cons ?_
  k_steps
  rename Fr _ _ _ _ => F3
  rename News _ _ _ _ => N3
  obtain ⟨ms, hms, hq1a, hq1b⟩ := sum_pick hz hzr hzl2 (some 0) none (some 3)
  refine ⟨sumK rfl F3 N3 (News.isList N3 (.head _)) hms fun h4 tk4 t4 F4 N4 => ?_⟩
  generalize ms.sum = q1 at hq1a hq1b
  clear hms F3 N3
  replace N4 : News h₀ L _ [(D, LCg.lst ys), (L + 10, o10), (L + 9, o9), (L + 8, o8), (L + 7, o7), (L + 6, o6), (L + 5, o5), (L + 4, o4), (L + 3, o3), (L + 2, o2), (L + 1, o1)] := fun p hp => N4 p ((by lcg_sub : ∀ p ∈ ([(D, LCg.lst ys), (L + 10, o10), (L + 9, o9), (L + 8, o8), (L + 7, o7), (L + 6, o6), (L + 5, o5), (L + 4, o4), (L + 3, o3), (L + 2, o2), (L + 1, o1)] : List (Addr × Obj)), p ∈ _) p hp)
  k_steps
  rename Obj => o1'
  rename (o1'.data = _) => d1'
  clear d1
  obtain ⟨tv1, d1'⟩ : ∃ t, o1'.data = .cell (some (.int (104 + q1) t)) := ⟨_, d1'⟩
  rename Fr _ _ _ _ => F2
  rename News _ _ _ _ => N2
  (try clear F4); (try clear N4)
  refine ⟨?_⟩
  dsimp only
  rw [lawR (0+1+1) (by decide)]
  conv in lawStmt _ => whnf
  refine holdN_cons ?_
  k_steps
  rename Fr _ _ _ _ => F3
  rename News _ _ _ _ => N3
  obtain ⟨ms, hms, hq2a, hq2b⟩ := sum_pick hz hzr hzl2 (some 1) none (some 3)
  refine ⟨sumK rfl F3 N3 (News.isList N3 (.head _)) hms fun h4 tk4 t4 F4 N4 => ?_⟩
  generalize ms.sum = q2 at hq2a hq2b
  clear hms F3 N3
  replace N4 : News h₀ L _ [(D, LCg.lst ys), (L + 10, o10), (L + 9, o9), (L + 8, o8), (L + 7, o7), (L + 6, o6), (L + 5, o5), (L + 4, o4), (L + 3, o3), (L + 2, o2), (L + 1, o1')] := fun p hp => N4 p ((by lcg_sub : ∀ p ∈ ([(D, LCg.lst ys), (L + 10, o10), (L + 9, o9), (L + 8, o8), (L + 7, o7), (L + 6, o6), (L + 5, o5), (L + 4, o4), (L + 3, o3), (L + 2, o2), (L + 1, o1')] : List (Addr × Obj)), p ∈ _) p hp)
  k_steps
  rename Obj => o2'
  rename (o2'.data = _) => d2'
  clear d2
  obtain ⟨tv2, d2'⟩ : ∃ t, o2'.data = .cell (some (.int (97 + q2) t)) := ⟨_, d2'⟩
  rename Fr _ _ _ _ => F2
  rename News _ _ _ _ => N2
  (try clear F4); (try clear N4)
  refine ⟨?_⟩
  dsimp only
  rw [lawR (0+1+1+1) (by decide)]
  conv in lawStmt _ => whnf
  refine holdN_cons ?_
  k_steps
  rename Fr _ _ _ _ => F3
  rename News _ _ _ _ => N3
  obtain ⟨ms, hms, hq3a, hq3b⟩ := sum_pick hz hzr hzl2 (some 2) none (some 3)
  refine ⟨sumK rfl F3 N3 (News.isList N3 (.head _)) hms fun h4 tk4 t4 F4 N4 => ?_⟩
  generalize ms.sum = q3 at hq3a hq3b
  clear hms F3 N3
  replace N4 : News h₀ L _ [(D, LCg.lst ys), (L + 10, o10), (L + 9, o9), (L + 8, o8), (L + 7, o7), (L + 6, o6), (L + 5, o5), (L + 4, o4), (L + 3, o3), (L + 2, o2'), (L + 1, o1')] := fun p hp => N4 p ((by lcg_sub : ∀ p ∈ ([(D, LCg.lst ys), (L + 10, o10), (L + 9, o9), (L + 8, o8), (L + 7, o7), (L + 6, o6), (L + 5, o5), (L + 4, o4), (L + 3, o3), (L + 2, o2'), (L + 1, o1')] : List (Addr × Obj)), p ∈ _) p hp)
  k_steps
  rename Fr _ _ _ _ => F2
  rename News _ _ _ _ => N2
  (try clear F4); (try clear N4)
  refine ⟨?_⟩
  obtain ⟨tv3, F2⟩ : ∃ t, Fr h₀ L _ (fun y => if y = Str.ofString "third" then some (Value.int (168152 + q3) t) else if y = Str.ofString "drawn" then some (Value.ref D) else (fun y => if y = Str.ofString "script" then some (Value.ref l) else m y) y) := ⟨_, F2⟩
  dsimp only
  rw [lawR (0+1+1+1+1) (by decide)]
  conv in lawStmt _ => whnf
  refine holdN_cons ?_
  k_steps
  rename Obj => o3'
  rename (o3'.data = _) => d3'
  clear d3
  have hf7 := Int.fmod_nonneg_of_pos (104 + q1) (show (0 : Int) < 7 by decide)
  have hf7' := Int.fmod_lt_of_pos (104 + q1) (show (0 : Int) < 7 by decide)
  obtain ⟨n, hn, hn2, hn8⟩ : ∃ n : Nat, 2 + (104 + q1).fmod 7 = (n : Int) ∧ 2 ≤ n ∧ n ≤ 8 := ⟨(2 + (104 + q1).fmod 7).toNat, by omega, by omega, by omega⟩
  rw [hn] at d3'
  obtain ⟨tv4, d3'⟩ : ∃ t, o3'.data = .cell (some (.int (n : Int) t)) := ⟨_, d3'⟩
  clear hf7 hf7' hn
  rename Fr _ _ _ _ => F2
  rename News _ _ _ _ => N2
  refine ⟨?_⟩
  dsimp only
  rw [lawR (0+1+1+1+1+1) (by decide)]
  conv in lawStmt _ => whnf
  refine holdN_cons ?_
  k_steps
  refine ⟨wpAny_Assign_Name (LCg.ListComp_U F2 (by with_unfolding_all rfl) (by decide) rfl (by decide) rfl (wpAny_ofH ?_)) (by with_unfolding_all rfl)⟩
  k_steps
  rename IsRange _ _ _ _ _ _ _ _ => hr
  rename Fr _ _ _ _ => F3
  rename News _ _ _ _ => N3
  have hr4 := Int.fmod_nonneg_of_pos ((104 + q1).fdiv 7) (show (0 : Int) < 4 by decide)
  have hr4' := Int.fmod_lt_of_pos ((104 + q1).fdiv 7) (show (0 : Int) < 4 by decide)
  refine ⟨LCg.CompSrc.range rfl F3 N3 hr (small_one (by omega) (by omega) (by omega) (by omega)) (rangeSize_nat _ _) (by rw [sizeLine_eq]; omega) fun g => ?_⟩
  refine rest_ints 0 3 ?t5 ?f5
  case t5 =>
    intro i v I oI C oC D' m₂ ys' h tk E' hi' hv hC hx F N off ne
    obtain ⟨t, rfl⟩ := hv
    obtain ⟨kv, hkv, hk⟩ : ∃ kv : Int, (0 + (i : Int)) = kv ∧ (kv = 0 ∨ kv = 1 ∨ kv = 2 ∨ kv = 3) := ⟨_, rfl, by omega⟩
    rw [hkv] at hx
    clear hkv
    rcases hk with rfl | rfl | rfl | rfl
    all_goals
      refine wpAny_ofH ?_
      k_steps
      exact ⟨⟨h, _, _, rfl, F, N, off, trivial, rfl, _, _, rfl, Int.fmod_nonneg_of_pos _ (by decide), Int.fmod_lt_of_pos _ (by decide)⟩⟩
  intro ys5 zs5 hz5 hzl5 hzr5 D5 h5 tk5 F5 N5 ho5
  simp only [LCg.Off1, and_true] at ho5
  have hl5 : 1 ≤ zs5.length ∧ zs5.length ≤ 4 := by omega
  clear hr4 hr4' hzl5 hr F3 N3
  k_steps
  rename Obj => o4'
  rename (o4'.data = _) => d4'
  clear d4
  rename Fr _ _ _ _ => F6
  rename News _ _ _ _ => N6
  refine ⟨?_⟩
  replace N6 : News h₀ L _ [(D5, LCg.lst ys5), (L + 10, o10), (L + 9, o9), (L + 8, o8), (L + 7, o7), (L + 6, o6), (L + 5, o5), (L + 4, o4'), (L + 3, o3'), (L + 2, o2'), (L + 1, o1')] := fun p hp => N6 p ((by lcg_sub : ∀ p ∈ ([(D5, LCg.lst ys5), (L + 10, o10), (L + 9, o9), (L + 8, o8), (L + 7, o7), (L + 6, o6), (L + 5, o5), (L + 4, o4'), (L + 3, o3'), (L + 2, o2'), (L + 1, o1')] : List (Addr × Obj)), p ∈ _) p hp)
  dsimp only
  exact segA2 w mean mg mb h₀ L D5 ys5 zs5 _ _ o1' o2' o3' o4' o5 o6 o7 o8 o9 o10 (104 + q1) (97 + q2) (168152 + q3) n _ _ _ _ Q E hK hT hn2 hn8 hz5 hzr5 hl5 (by omega) (by omega) (by omega) ho5.2 rfl F6 N6 d1' d2' d3' d4' d5 d6 d7 d8 d9 d10 hB
end Mine
end

section
open PySem PySem.W PyProof.Rows
set_option linter.unusedVariables false
namespace Mine
def thereN (ks ls : List Int) : List Int :=
  ((List.range (ls.length + 1 - ks.length)).filter fun p => decide ((ls.drop p).take ks.length = ks)).map fun (p : Nat) => (ls.length : Int) - ks.length - p
theorem cutOf_le (ks : List Int) : cutOf ks ≤ ks.length - 1 := by
  unfold cutOf
  have h1 := bestAt_le (ks.map Int.toNat) (ks.length - 1)
  have h2 := bestAt_le ((ks.map (255 - ·)).map Int.toNat) (ks.length - 1)
  omega
-- the order of texts
theorem lx_nil {x : Nat} {v : List Nat} : [] < x :: v := by simp
theorem lx_cons {a b : Nat} {x y : List Nat} : a :: x < b :: y ↔ a < b ∨ a = b ∧ x < y := List.cons_lt_cons_iff
theorem lx_app (q : List Nat) {x y : List Nat} : q ++ x < q ++ y ↔ x < y := by
  induction q with
  | nil => simp
  | cons a q ih => rw [List.cons_append, List.cons_append, lx_cons, ih]; exact ⟨fun h => h.elim (fun h => absurd h (Nat.lt_irrefl _)) (·.2), fun h => .inr ⟨rfl, h⟩⟩
theorem lx_pre (v : List Nat) {z : List Nat} (h : z ≠ []) : v < v ++ z := by
  have := (lx_app v (x := []) (y := z)).mpr (by cases z with | nil => exact absurd rfl h | cons a z => exact lx_nil)
  rwa [List.append_nil] at this
theorem lx_tri : ∀ x y : List Nat, ¬ x < y → ¬ y < x → x = y
  | [], [], _, _ => rfl
  | [], _ :: _, h, _ => absurd lx_nil h
  | _ :: _, [], _, h => absurd lx_nil h
  | a :: x, b :: y, h1, h2 => by
    rw [lx_cons] at h1 h2
    have hab : a = b := by
      rcases Nat.lt_trichotomy a b with h | h | h
      · exact absurd (.inl h) h1
      · exact h
      · exact absurd (.inl h) h2
    subst hab
    rw [lx_tri x y (fun h => h1 (.inr ⟨rfl, h⟩)) (fun h => h2 (.inr ⟨rfl, h⟩))]
theorem lx_trans : ∀ {x y z : List Nat}, x < y → y < z → x < z
  | x, [], _, h, _ => absurd h (List.not_lt_nil x)
  | _, y :: ys, [], _, h => absurd h (List.not_lt_nil _)
  | [], _, _ :: _, _, _ => lx_nil
  | a :: x, b :: y, c :: z, h1, h2 => by
    rw [lx_cons] at h1 h2 ⊢
    rcases h1 with h1 | ⟨rfl, h1⟩
    · rcases h2 with h2 | ⟨rfl, h2⟩
      · exact .inl (by omega)
      · exact .inl h1
    · rcases h2 with h2 | ⟨rfl, h2⟩
      · exact .inl h2
      · exact .inr ⟨rfl, lx_trans h1 h2⟩
theorem lx_irr : ∀ x : List Nat, ¬ x < x
  | [] => List.not_lt_nil []
  | a :: x => by
    rw [lx_cons]
    rintro (h | ⟨_, h⟩)
    · exact Nat.lt_irrefl _ h
    · exact lx_irr x h
theorem lx_both : ∀ {v y : List Nat}, (∀ a ∈ v, a ≤ 255) → (∀ a ∈ y, a ≤ 255) → ¬ v < y → ¬ (v.map (255 - ·)) < (y.map (255 - ·)) → y <+: v
  | _, [], _, _, _, _ => List.nil_prefix
  | [], _ :: _, _, _, h, _ => absurd lx_nil h
  | b :: v, a :: y, hv, hy, h1, h2 => by
    rw [List.map_cons, List.map_cons, lx_cons] at h2
    rw [lx_cons] at h1
    have hb := hv b (.head _)
    have ha := hy a (.head _)
    have hab : a = b := by
      rcases Nat.lt_trichotomy a b with h | h | h
      · exact absurd (.inl (by omega)) h2
      · exact h
      · exact absurd (.inl h) h1
    subst hab
    rw [List.prefix_cons_inj]
    exact lx_both (fun x hx => hv x (.tail _ hx)) (fun x hx => hy x (.tail _ hx)) (fun h => h1 (.inr ⟨rfl, h⟩)) (fun h => h2 (.inr ⟨rfl, h⟩))
def MaxAt (t : List Nat) (a : Nat) : Prop := ∀ i, i < t.length → ¬ t.drop a < t.drop i
theorem coll_one {x y : List Nat} : collT x y = 1 ↔ y < x := by
  unfold collT
  by_cases h1 : y < x
  · have h2 : ¬ x < y := fun h => lx_irr _ (lx_trans h1 h)
    simp [h1, h2, b2i]
  · by_cases h2 : x < y <;> simp [h1, h2, b2i]
theorem bestAt_max (t : List Nat) : ∀ k i, i ≤ k → ¬ t.drop (bestAt t k) < t.drop i
  | 0, i, h => by
    obtain rfl : i = 0 := by omega
    exact lx_irr _
  | k + 1, i, h => by
    unfold bestAt
    have ih := bestAt_max t k
    split
    · rename_i hc
      rw [coll_one] at hc
      by_cases hi : i = k + 1
      · subst hi; exact lx_irr _
      · exact fun hlt => ih i (by omega) (lx_trans hc hlt)
    · rename_i hc
      rw [coll_one] at hc
      by_cases hi : i = k + 1
      · subst hi; exact hc
      · exact ih i (by omega)
theorem best_max {t : List Nat} (h : 0 < t.length) : MaxAt t (bestAt t (t.length - 1)) := fun i hi => bestAt_max t _ i (by omega)
/-- a local repetition, and a period -/
def Rep {α : Type} (t : List α) (c r : Nat) : Prop := ∀ j, j < c → c ≤ j + r → j + r < t.length → t[j]? = t[j + r]?
def Per {α : Type} (t : List α) (r : Nat) : Prop := ∀ j, j + r < t.length → t[j]? = t[j + r]?
theorem drop_split {α : Type} (t : List α) (a k : Nat) : t.drop a = (t.drop a).take k ++ t.drop (a + k) := by
  rw [← List.drop_drop]
  exact (List.take_append_drop _ _).symm
theorem take_same {α : Type} {t : List α} {a b k : Nat} (h : ∀ i, i < k → t[a + i]? = t[b + i]?) : (t.drop a).take k = (t.drop b).take k := by
  refine List.ext_getElem? fun i => ?_
  rw [List.getElem?_take, List.getElem?_take]
  by_cases hi : i < k
  · rw [if_pos hi, if_pos hi, List.getElem?_drop, List.getElem?_drop]; exact h i hi
  · rw [if_neg hi, if_neg hi]
/-- the greatest end for an order and for its contrary: a repetition at the later one's front is a period -/
theorem crit {t : List Nat} {a c r : Nat} (ht : ∀ x ∈ t, x ≤ 255) (hc : c < t.length) (h1 : MaxAt t c) (h2 : MaxAt (t.map (255 - ·)) a) (hac : a ≤ c) (h0 : 0 < r) (hr : Rep t c r) : c < r ∧ Per t r := by
  by_cases hrc : r ≤ c
  · exfalso
    by_cases hn : c + r ≤ t.length
    · have e1 := drop_split t (c - r) r
      have e2 := drop_split t c r
      have e3 : (t.drop (c - r)).take r = (t.drop c).take r := take_same fun i hi => by
        have := hr (c - r + i) (by omega) (by omega) (by omega)
        rw [this]
        congr 1
        omega
      rw [show c - r + r = c by omega, e3] at e1
      have h3 := h1 (c - r) (by omega)
      rw [e1] at h3
      have h4 : ¬ t.drop (c + r) < t.drop c := fun h => h3 (by
        have := (lx_app ((t.drop c).take r)).mpr h
        rwa [← e2] at this)
      by_cases hn2 : c + r < t.length
      · have h5 := lx_tri _ _ h4 (h1 (c + r) hn2)
        have := congrArg List.length h5
        rw [List.length_drop, List.length_drop] at this
        omega
      · refine h4 ?_
        rw [List.drop_eq_nil_of_le (by omega)]
        rw [List.drop_eq_getElem_cons hc]
        exact lx_nil
    · have e1 := drop_split t (c - r) (t.length - c)
      have e3 : (t.drop (c - r)).take (t.length - c) = (t.drop c).take (t.length - c) := take_same fun i hi => by
        have := hr (c - r + i) (by omega) (by omega) (by omega)
        rw [this]
        congr 1
        omega
      rw [List.take_of_length_le (l := t.drop c) (by rw [List.length_drop]; omega)] at e3
      rw [e3] at e1
      refine h1 (c - r) (by omega) ?_
      rw [e1]
      refine lx_pre _ fun h => ?_
      have := congrArg List.length h
      rw [List.length_drop, List.length_nil] at this
      omega
  · refine ⟨by omega, ?_⟩
    by_cases hn : t.length ≤ c + r
    · exact fun j hj => hr j (by omega) (by omega) hj
    · have h3 : ¬ (t.map (255 - ·)).drop c < (t.map (255 - ·)).drop (c + r) := by
        have h4 := h2 (a + r) (by rw [List.length_map]; omega)
        have e1 := drop_split (t.map (255 - ·)) a (c - a)
        have e2 := drop_split (t.map (255 - ·)) (a + r) (c - a)
        have e3 : ((t.map (255 - ·)).drop a).take (c - a) = ((t.map (255 - ·)).drop (a + r)).take (c - a) := take_same fun i hi => by
          have := hr (a + i) (by omega) (by omega) (by omega)
          rw [List.getElem?_map, List.getElem?_map, this]
          congr 2
          omega
        rw [show a + (c - a) = c by omega] at e1
        rw [show a + r + (c - a) = c + r by omega, ← e3] at e2
        rw [e1, e2] at h4
        exact fun h => h4 ((lx_app _).mpr h)
      rw [← List.map_drop, ← List.map_drop] at h3
      have h5 := lx_both (fun x hx => ht x (List.mem_of_mem_drop hx)) (fun x hx => ht x (List.mem_of_mem_drop hx)) (h1 (c + r) (by omega)) h3
      obtain ⟨z, hz⟩ := h5
      intro j hj
      by_cases hjc : j < c
      · exact hr j hjc (by omega) hj
      · have e1 : (t.drop c)[j - c]? = (t.drop (c + r))[j - c]? := by
          rw [← hz, List.getElem?_append_left (by rw [List.length_drop]; omega)]
        rw [List.getElem?_drop, List.getElem?_drop] at e1
        rw [show c + (j - c) = j by omega, show c + r + (j - c) = j + r by omega] at e1
        exact e1
theorem crit_ks {ks : List Int} {r : Nat} (h2 : 2 ≤ ks.length) (hr : ∀ k ∈ ks, 0 ≤ k ∧ k < 256) (h0 : 0 < r) (hrep : Rep ks (cutOf ks) r) : cutOf ks < r ∧ Per ks r := by
  have hinj : ∀ i j : Nat, (ks.map Int.toNat)[i]? = (ks.map Int.toNat)[j]? → ks[i]? = ks[j]? := by
    intro i j h
    rw [List.getElem?_map, List.getElem?_map] at h
    cases e1 : ks[i]? with
    | none =>
      rw [e1] at h
      cases e2 : ks[j]? with
      | none => rfl
      | some y => rw [e2] at h; cases h
    | some x =>
      rw [e1] at h
      cases e2 : ks[j]? with
      | none => rw [e2] at h; cases h
      | some y =>
        rw [e2] at h
        have hx := hr x (List.mem_of_getElem? e1)
        have hy := hr y (List.mem_of_getElem? e2)
        have h3 : x.toNat = y.toNat := Option.some.inj h
        rw [show x = y by omega]
  have ht : ∀ x ∈ ks.map Int.toNat, x ≤ 255 := by
    intro x hx
    obtain ⟨k, hk, rfl⟩ := List.mem_map.mp hx
    have := hr k hk
    omega
  have e1 : (ks.map (255 - ·)).map Int.toNat = (ks.map Int.toNat).map (255 - ·) := by
    rw [List.map_map, List.map_map]
    refine List.map_congr_left fun k hk => ?_
    have := hr k hk
    show (255 - k).toNat = 255 - k.toNat
    omega
  have e2 : ((ks.map Int.toNat).map (255 - ·)).map (255 - ·) = ks.map Int.toNat := by
    rw [List.map_map]
    refine (List.map_congr_left fun k hk => ?_).trans (List.map_id _)
    have := ht k hk
    show 255 - (255 - k) = k
    omega
  have ht2 : ∀ x ∈ (ks.map Int.toNat).map (255 - ·), x ≤ 255 := by
    intro x hx
    obtain ⟨k, hk, rfl⟩ := List.mem_map.mp hx
    omega
  have m1 := best_max (t := ks.map Int.toNat) (by rw [List.length_map]; omega)
  have m2 := best_max (t := (ks.map Int.toNat).map (255 - ·)) (by rw [List.length_map, List.length_map]; omega)
  rw [List.length_map] at m1
  rw [List.length_map, List.length_map] at m2
  have hb1 := bestAt_le (ks.map Int.toNat) (ks.length - 1)
  have hb2 := bestAt_le ((ks.map Int.toNat).map (255 - ·)) (ks.length - 1)
  have hcut : cutOf ks = max (bestAt (ks.map Int.toNat) (ks.length - 1)) (bestAt ((ks.map Int.toNat).map (255 - ·)) (ks.length - 1)) := by
    unfold cutOf
    rw [e1]
  rw [hcut] at hrep ⊢
  generalize bestAt (ks.map Int.toNat) (ks.length - 1) = b1 at *
  generalize bestAt ((ks.map Int.toNat).map (255 - ·)) (ks.length - 1) = b2 at *
  by_cases hb : b2 ≤ b1
  · rw [show max b1 b2 = b1 by omega] at hrep ⊢
    have := crit (t := ks.map Int.toNat) (a := b2) (c := b1) (r := r) ht (by rw [List.length_map]; omega) m1 m2 hb h0 (fun j h1 h2 h3 => by
      rw [List.length_map] at h3
      rw [List.getElem?_map, List.getElem?_map, hrep j h1 h2 h3])
    refine ⟨this.1, fun j hj => hinj _ _ (this.2 j (by rw [List.length_map]; exact hj))⟩
  · rw [show max b1 b2 = b2 by omega] at hrep ⊢
    have := crit (t := (ks.map Int.toNat).map (255 - ·)) (a := b1) (c := b2) (r := r) ht2 (by rw [List.length_map, List.length_map]; omega) m2 (by rw [e2]; exact m1) (by omega) h0 (fun j h1 h2 h3 => by
      rw [List.length_map, List.length_map] at h3
      rw [List.getElem?_map, List.getElem?_map, List.getElem?_map, List.getElem?_map, hrep j h1 h2 h3])
    refine ⟨this.1, fun j hj => hinj _ _ ?_⟩
    have h5 := this.2 j (by rw [List.length_map, List.length_map]; exact hj)
    rw [← e2, List.getElem?_map, List.getElem?_map (i := j + r), h5]
/-- the reach -/
theorem alike_iff {ks : List Int} {place r : Nat} : Alike ks place r ↔ Rep ks place r := by
  unfold Alike
  constructor
  · intro h j h1 h2 h3
    have h4 := congrArg (fun l => l[j - (place - r)]?) h
    simp only [List.getElem?_take, List.getElem?_drop] at h4
    rw [if_pos (by omega), if_pos (by omega), show place - r + (j - (place - r)) = j by omega, show place - r + r + (j - (place - r)) = j + r by omega] at h4
    exact h4
  · intro h
    refine take_same fun i hi => ?_
    rw [h (place - r + i) (by omega) (by omega) (by omega)]
    congr 1
    omega
theorem reach_spec (ks : List Int) (place : Nat) : ∀ k, (reachN ks place k = 0 ∧ ∀ i, k < i → i ≤ ks.length → ¬ Alike ks place i) ∨ (k < reachN ks place k ∧ reachN ks place k ≤ ks.length ∧ Alike ks place (reachN ks place k) ∧ ∀ i, k < i → i < reachN ks place k → ¬ Alike ks place i) := by
  intro k
  generalize hf : ks.length - k = f
  induction f generalizing k with
  | zero =>
    left
    rw [reachN, if_neg (by omega)]
    exact ⟨rfl, fun i h1 h2 => by omega⟩
  | succ f ih =>
    rw [reachN, if_pos (by omega)]
    by_cases hA : Alike ks place (k + 1)
    · rw [if_pos hA]
      exact .inr ⟨by omega, by omega, hA, fun i h1 h2 => by omega⟩
    · rw [if_neg hA]
      rcases ih (k + 1) (by omega) with ⟨h1, h2⟩ | ⟨h1, h2, h3, h4⟩
      · refine .inl ⟨h1, fun i h5 h6 => ?_⟩
        by_cases hi : i = k + 1
        · subst hi; exact hA
        · exact h2 i (by omega) h6
      · refine .inr ⟨by omega, h2, h3, fun i h5 h6 => ?_⟩
        by_cases hi : i = k + 1
        · subst hi; exact hA
        · exact h4 i (by omega) h6
theorem reach_is {ks : List Int} {place : Nat} (h : 0 < ks.length) : 0 < reachN ks place 0 ∧ reachN ks place 0 ≤ ks.length ∧ Rep ks place (reachN ks place 0) ∧ ∀ i, 0 < i → Rep ks place i → reachN ks place 0 ≤ i := by
  rcases reach_spec ks place 0 with ⟨h1, h2⟩ | ⟨h1, h2, h3, h4⟩
  · exact absurd (alike_iff.mpr (fun j h5 h6 h7 => by omega)) (h2 ks.length h (Nat.le_refl _))
  · refine ⟨h1, h2, alike_iff.mp h3, fun i h5 h6 => ?_⟩
    refine Nat.le_of_not_lt fun h7 => h4 i h5 h7 (alike_iff.mpr h6)
theorem reachN_in {ks : List Int} {place : Nat} (h : 0 < ks.length) (hp : place ≤ ks.length) : 0 < reachN ks place 0 ∧ reachN ks place 0 ≤ ks.length := ⟨(reach_is h).1, (reach_is h).2.1⟩
theorem per_iff {ks : List Int} {st : Nat} (h1 : st ≤ ks.length) : ks.drop st = ks.take (ks.length - st) ↔ Per ks st := by
  constructor
  · intro h j hj
    have h2 := congrArg (fun l => l[j]?) h
    simp only [List.getElem?_take, List.getElem?_drop] at h2
    rw [if_pos (by omega), Nat.add_comm] at h2
    exact h2.symm
  · intro h
    refine List.ext_getElem? fun i => ?_
    rw [List.getElem?_take, List.getElem?_drop]
    by_cases hi : i + st < ks.length
    · rw [if_pos (by omega), h i hi, Nat.add_comm]
    · rw [if_neg (by omega), List.getElem?_eq_none (by omega)]
theorem reach_le_period {ks : List Int} {place st : Nat} (hp : place ≤ ks.length) (h0 : 0 < st) (h1 : st ≤ ks.length) (h : ks.drop st = ks.take (ks.length - st)) : reachN ks place 0 ≤ st :=
  (reach_is (by omega)).2.2.2 st h0 fun j _ _ h3 => (per_iff h1).mp h j h3
theorem critical {ks : List Int} (h2 : 2 ≤ ks.length) (hr : ∀ k ∈ ks, 0 ≤ k ∧ k < 256) :
    ks.drop (reachN ks (cutOf ks) 0) = ks.take (ks.length - reachN ks (cutOf ks) 0) ∧ (∀ st, 0 < st → st ≤ ks.length → ks.drop st = ks.take (ks.length - st) → reachN ks (cutOf ks) 0 ≤ st) ∧ cutOf ks < reachN ks (cutOf ks) 0 := by
  obtain ⟨h3, h4, h5, h6⟩ := reach_is (ks := ks) (place := cutOf ks) (by omega)
  have h7 := crit_ks h2 hr h3 h5
  have := cutOf_le ks
  exact ⟨(per_iff h4).mpr h7.2, fun st h8 h9 h10 => reach_le_period (by omega) h8 h9 h10, h7.1⟩
/-- the search -/
theorem getD_some {l : List Int} {k : Nat} (h : k < l.length) : l[k]? = some (l.getD k 0) := by
  rw [List.getD_eq_getElem?_getD, List.getElem?_eq_getElem h]; rfl
theorem look_spec (ks ls : List Int) (place : Nat) : ∀ k, k ≤ ks.length → place + ks.length ≤ ls.length → lookN ks ls place k ≤ ks.length ∧ (∀ j, k ≤ j → j < lookN ks ls place k → ks[j]? = ls[place + j]?) ∧ (lookN ks ls place k < ks.length → ks[lookN ks ls place k]? ≠ ls[place + lookN ks ls place k]?) := by
  intro k hk hl
  generalize hf : ks.length - k = f
  induction f generalizing k with
  | zero =>
    rw [lookN, if_neg (by omega)]
    exact ⟨hk, fun j h1 h2 => by omega, fun h => by omega⟩
  | succ f ih =>
    rw [lookN]
    by_cases he : k < ks.length ∧ ks.getD k 0 = ls.getD (place + k) 0
    · rw [if_pos he]
      obtain ⟨h1, h2, h3⟩ := ih (k + 1) (by omega) (by omega)
      refine ⟨h1, fun j h4 h5 => ?_, h3⟩
      by_cases hj : j = k
      · subst hj
        rw [getD_some (by omega), getD_some (l := ls) (by omega), he.2]
      · exact h2 j (by omega) h5
    · rw [if_neg he]
      refine ⟨hk, fun j h1 h2 => by omega, fun h h2 => he ⟨h, ?_⟩⟩
      rw [getD_some h, getD_some (l := ls) (by omega)] at h2
      exact Option.some.inj h2
abbrev Occ (ks ls : List Int) (q : Nat) : Prop := (ls.drop q).take ks.length = ks
theorem occ_iff {ks ls : List Int} {q : Nat} : Occ ks ls q ↔ ∀ i, i < ks.length → ls[q + i]? = ks[i]? := by
  unfold Occ
  constructor
  · intro h i hi
    have h2 := congrArg (fun l => l[i]?) h
    simp only [List.getElem?_take, List.getElem?_drop] at h2
    rwa [if_pos hi] at h2
  · intro h
    refine List.ext_getElem? fun i => ?_
    rw [List.getElem?_take]
    by_cases hi : i < ks.length
    · rw [if_pos hi, List.getElem?_drop, h i hi]
    · rw [if_neg hi, List.getElem?_eq_none (by omega)]
theorem range_step (P : Nat → Bool) (place M : Nat) (hM : 0 < M) : ∀ step, 0 < step → (∀ s, 0 < s → s < step → P (place + s) = false) →
    (List.range' place M).filter P = (if P place = true then [place] else []) ++ (List.range' (place + step) (M - step)).filter P
  | 0, h, _ => by omega
  | 1, _, _ => by
    obtain ⟨M, rfl⟩ : ∃ k, M = k + 1 := ⟨M - 1, by omega⟩
    rw [List.range'_succ, List.filter_cons]
    split <;> rfl
  | step + 2, _, h => by
    rw [range_step P place M hM (step + 1) (by omega) (fun s h1 h2 => h s h1 (by omega))]
    congr 1
    by_cases hS : M ≤ step + 1
    · rw [show M - (step + 1) = 0 by omega, show M - (step + 2) = 0 by omega]; rfl
    · obtain ⟨k, hk⟩ : ∃ k, M - (step + 1) = k + 1 := ⟨M - (step + 1) - 1, by omega⟩
      rw [hk, List.range'_succ, List.filter_cons, h (step + 1) (by omega) (by omega), show M - (step + 2) = k by omega]
      rfl
theorem search_is {ks ls : List Int} (h2 : 2 ≤ ks.length) (hr : ∀ k ∈ ks, 0 ≤ k ∧ k < 256) (place : Nat) :
    searchN ks ls (cutOf ks) (reachN ks (cutOf ks) 0) place = ((List.range' place (ls.length + 1 - ks.length - place)).filter fun q => decide (Occ ks ls q)).map fun (q : Nat) => (q : Int) := by
  have hcl := cutOf_le ks
  obtain ⟨h3, h4, h5, h6⟩ := reach_is (ks := ks) (place := cutOf ks) (by omega)
  have hcr : ∀ r, 0 < r → Rep ks (cutOf ks) r → cutOf ks < r ∧ Per ks r := fun r h0 hrep => crit_ks h2 hr h0 hrep
  generalize reachN ks (cutOf ks) 0 = p at *
  generalize cutOf ks = c at *
  generalize hf : ls.length + 1 - place = f
  induction f using Nat.strongRecOn generalizing place with
  | _ f ih =>
  rw [searchN]
  by_cases hp : place + ks.length ≤ ls.length
  · rw [if_pos hp]
    obtain ⟨k1, k2, k3⟩ := look_spec ks ls place c (by omega) hp
    have k4 := lookN_le ks ls place c
    generalize lookN ks ls place c = lk at *
    have hrep : ∀ s, Occ ks ls (place + s) → c + s ≤ lk ∨ lk = ks.length → Rep ks c s := by
      intro s ho hs j j1 j2 j3
      rw [occ_iff] at ho
      rw [← ho j (by omega), k2 (j + s) j2 (by omega)]
      congr 1
      omega
    by_cases hl : lk < ks.length
    · rw [if_pos hl, ih (ls.length + 1 - (place + (lk - c + 1))) (by omega) _ rfl]
      rw [range_step (fun q => decide (Occ ks ls q)) place (ls.length + 1 - ks.length - place) (by omega) (lk - c + 1) (by omega) (fun s s1 s2 => by
        rw [decide_eq_false_iff_not]
        intro ho
        have hR := hrep s ho (.inl (by omega))
        obtain ⟨_, hP⟩ := hcr s s1 hR
        refine k3 hl ?_
        rw [occ_iff] at ho
        have e1 := hP (lk - s) (by omega)
        have e2 := ho (lk - s) (by omega)
        rw [show lk - s + s = lk by omega] at e1
        rw [show place + s + (lk - s) = place + lk by omega] at e2
        rw [← e1, e2])]
      rw [if_neg (by
        rw [decide_eq_true_eq]
        intro ho
        rw [occ_iff] at ho
        exact k3 hl (ho lk hl).symm), List.nil_append]
      rw [show ls.length + 1 - ks.length - (place + (lk - c + 1)) = ls.length + 1 - ks.length - place - (lk - c + 1) by omega]
    · rw [if_neg hl, ih (ls.length + 1 - (place + (p - 1 + 1))) (by omega) _ rfl, show p - 1 + 1 = p by omega]
      have hlk : lk = ks.length := by omega
      rw [range_step (fun q => decide (Occ ks ls q)) place (ls.length + 1 - ks.length - place) (by omega) p h3 (fun s s1 s2 => by
        rw [decide_eq_false_iff_not]
        intro ho
        have := h6 s s1 (hrep s ho (.inr hlk))
        omega)]
      rw [List.map_append, show ls.length + 1 - ks.length - (place + p) = ls.length + 1 - ks.length - place - p by omega]
      congr 1
      have hiff : ks.take c = (ls.drop place).take c ↔ Occ ks ls place := by
        rw [occ_iff]
        constructor
        · intro h i hi
          by_cases hic : i < c
          · have e := congrArg (fun l => l[i]?) h
            simp only [List.getElem?_take, List.getElem?_drop] at e
            rw [if_pos hic, if_pos hic] at e
            exact e.symm
          · exact (k2 i (by omega) (by omega)).symm
        · intro h
          refine List.ext_getElem? fun i => ?_
          rw [List.getElem?_take, List.getElem?_take]
          by_cases hic : i < c
          · rw [if_pos hic, if_pos hic, List.getElem?_drop, h i (by omega)]
          · rw [if_neg hic, if_neg hic]
      by_cases ho : Occ ks ls place
      · rw [if_pos (hiff.mpr ho), if_pos (decide_eq_true ho)]; rfl
      · rw [if_neg (fun h => ho (hiff.mp h)), if_neg (by rw [decide_eq_true_eq]; exact ho)]; rfl
  · rw [if_neg hp, show ls.length + 1 - ks.length - place = 0 by omega]
    rfl
theorem occ_rev {ks ls : List Int} {q : Nat} (hq : q + ks.length ≤ ls.length) : Occ ks ls (ls.length - ks.length - q) ↔ Occ ks.reverse ls.reverse q := by
  rw [occ_iff, occ_iff, List.length_reverse]
  constructor
  · intro h i hi
    rw [List.getElem?_reverse (by omega), List.getElem?_reverse hi]
    have := h (ks.length - 1 - i) (by omega)
    rw [← this]
    congr 1
    omega
  · intro h i hi
    have := h (ks.length - 1 - i) (by omega)
    rw [List.getElem?_reverse (by omega), List.getElem?_reverse (by omega), show ks.length - 1 - (ks.length - 1 - i) = i by omega] at this
    rw [← this]
    congr 1
    omega
theorem rev_range (N : Nat) : (List.range N).reverse = (List.range N).map fun i => N - 1 - i := by
  refine List.ext_getElem? fun i => ?_
  by_cases hi : i < N
  · rw [List.getElem?_reverse (by rw [List.length_range]; exact hi), List.length_range, List.getElem?_map, List.getElem?_range (by omega), List.getElem?_range hi]; rfl
  · rw [List.getElem?_eq_none (by rw [List.length_reverse, List.length_range]; omega), List.getElem?_eq_none (by rw [List.length_map, List.length_range]; omega)]
theorem search_there {ks : List Int} (ls : List Int) (h2 : 2 ≤ ks.length) (hr : ∀ k ∈ ks, 0 ≤ k ∧ k < 256) :
    searchN ks.reverse ls.reverse (cutOf ks.reverse) (reachN ks.reverse (cutOf ks.reverse) 0) 0 = (thereN ks ls).reverse := by
  rw [search_is (by rw [List.length_reverse]; exact h2) (fun k hk => hr k (List.mem_reverse.mp hk))]
  unfold thereN
  rw [show ls.reverse.length + 1 - ks.reverse.length - 0 = ls.length + 1 - ks.length by rw [List.length_reverse, List.length_reverse, Nat.sub_zero], ← List.range_eq_range', ← List.map_reverse, ← List.filter_reverse, rev_range, List.filter_map, List.map_map]
  generalize hN : ls.length + 1 - ks.length = N
  have hfil : (List.range N).filter (fun q => decide (Occ ks.reverse ls.reverse q)) = (List.range N).filter ((fun p => decide ((ls.drop p).take ks.length = ks)) ∘ fun i => N - 1 - i) := by
    refine List.filter_congr fun q hq => ?_
    have := List.mem_range.mp hq
    show decide _ = decide _
    rw [decide_eq_decide, ← occ_rev (by omega), show ls.length - ks.length - q = N - 1 - q by omega]
  rw [hfil]
  refine List.map_congr_left fun q hq => ?_
  have := List.mem_range.mp (List.mem_filter.mp hq).1
  show (q : Int) = (ls.length : Int) - ks.length - ((N - 1 - q : Nat) : Int)
  omega
end Mine
end

section
open PySem PySem.W PyProof.Rows
set_option maxRecDepth 100000
set_option maxHeartbeats 8000000
namespace Mine
example : PySem.Challenge.rw_ph0009_01 = PySem.Challenge.rw_ph0009_01 ∧ hd.heap_39 = hd.heap_39 := by
  k_fill; exact ⟨rfl, rfl⟩
local macro_rules | `(tactic| walk_at "eval ListComp") => `(tactic| refine Hold.out ?_)
local macro_rules | `(tactic| walk_at "exec Assign cons ListComp") => `(tactic| refine Hold.out ?_)
local macro_rules | `(tactic| walk_at "call builtin:sum") => `(tactic| refine Hold.out ?_)
local macro_rules | `(tactic| walk_at "call ref") => `(tactic| refine Hold.out ?_)
theorem swap_whole {ks rs : List Int} (hs : SwapOf ks ks.length rs) : rs = ks.reverse := by
  refine List.ext_getElem? fun i => ?_
  by_cases hi : i < ks.length
  · have := hs.at_ 0 (ks.length - 1 - i) (by omega) (by omega)
    rw [Nat.zero_mul, Nat.zero_add, Nat.zero_add, show ks.length - 1 - (ks.length - 1 - i) = i by omega] at this
    rw [this, List.getElem?_reverse hi]
  · rw [List.getElem?_eq_none (by rw [hs.len]; omega), List.getElem?_eq_none (by rw [List.length_reverse]; omega)]
def LawC (w : World) (h₀ : Heap) (L : Addr) (s : Shared) (Q : Flow → Shared → Prop) (E : Value → Shared → Prop) : Prop :=
  ∀ (P : Addr) (vs : List Value) (ks : List Int) (ob mir : Array UInt8) (t1 t2 t3 : Tok) (o1 o2 o3 o4 o5 o6 o7 o8 o9 o10 : Obj) (m : Str → Option Value) (h : Heap) (tk n : Nat), 2 ≤ n → n ≤ 8 → ks.length = n → (∀ k ∈ ks, 0 ≤ k ∧ k < 256) → IntsAre vs ks → KBw.bInts ob = ks → KBw.bInts mir = ks.reverse → (@Ne Nat (L + 10) P ∧ @Ne Nat (L + 9) P ∧ @Ne Nat (L + 8) P ∧ @Ne Nat (L + 7) P ∧ @Ne Nat (L + 6) P ∧ @Ne Nat (L + 5) P ∧ @Ne Nat (L + 4) P ∧ @Ne Nat (L + 3) P ∧ @Ne Nat (L + 2) P ∧ @Ne Nat (L + 1) P) → m (Str.ofString "mirror") = some (.bytes mir t3) →
    o3.data = .cell (some (.int (n : Int) t1)) → o5.data = .cell (some (.ref P)) → o6.data = .cell (some (.bytes ob t2)) → o8.data = .cell none → o9.data = .cell none → o10.data = .cell none →
    Fr h₀ L h m → News h₀ L h [(P, LCg.lst vs), (L + 10, o10), (L + 9, o9), (L + 8, o8), (L + 7, o7), (L + 6, o6), (L + 5, o5), (L + 4, o4), (L + 3, o3), (L + 2, o2), (L + 1, o1)] → wpN (model PySem.Challenge.rw_ph0009_01.row.prog w) (lawA L) (execs (lawRest 16) (lawEnv L)) Q E { s with heap := h, toks := tk }
theorem segB (w : World) (mean : ExcName → Option Value) (mg mb : Str → Option Value) (h₀ : Heap) (L : Addr) (s : Shared) (Q : Flow → Shared → Prop) (E : Value → Shared → Prop)
    (hK : (hd.heap_39 w.params).In h₀) (hT : Top hd.view_39 (looseW hd.view_39 []) mean mg mb h₀) (hC : LawC w h₀ L s Q E) : LawB w h₀ L s Q E := by
  intro P vs ks ls ob lb t1 t2 t3 o1 o2 o3 o4 o5 o6 o7 o8 o9 o10 m h tk n hn2 hn8 hkl hll hkr hI hob hlb hP d3 d5 d6 d7 d8 d9 d10 F N
  have hLb : Below callerA h₀ [] h₀ := below_caller h₀
  rw [lawR 11 (by decide)]
  conv in lawStmt _ => whnf
  refine wpN_execs_cons (wpN_Assign_Name (wpN_CallA (P := (hd.heap_39 w.params).In) (.ref 35) (wpAny_ofH ?_) (keeps_K (by k_is))))
  k_steps
  refine ⟨rfl, ?_⟩
  k_steps
  refine ⟨hK.keeps F.keep, ?_⟩
  k_dflt (refine' byteswap_ok w mean mg mb ob ks _ _ n 1 _ hob (by omega) (by omega) (by omega) (by omega) _ _ _ _ _ _ _ _ _ _ _ _ _ _ _ _ _ hLb F hK N hT rfl ?_ ?_ ?_)
  · decide
  · show 7 + 10 < 9900; decide
  intro mir tm h1 tk1 hs1 F1 N1
  have hmir : KBw.bInts mir = ks.reverse := swap_whole (by rw [hkl]; exact hs1)
  clear hs1 F N
  k_steps
  rename Fr _ _ _ _ => F2
  rename News _ _ _ _ => N2
  dsimp only
  -- behind
  have hbeh : ∀ (h2 : Heap) (tk2 : Nat) (gens2 : Array GenState), gens2 = s.gens → Fr h₀ L h2 (fun y => if y = Str.ofString "mirror" then some (.bytes mir tm) else m y) → News h₀ L h2 [(P, LCg.lst vs), (L + 10, o10), (L + 9, o9), (L + 8, o8), (L + 7, o7), (L + 6, o6), (L + 5, o5), (L + 4, o4), (L + 3, o3), (L + 2, o2), (L + 1, o1)] →
      (∀ (beh : Array UInt8) (tb : Tok) (h3 : Heap) (tk3 : Nat), KBw.bInts beh = ls.reverse → Fr h₀ L h3 (fun y => if y = Str.ofString "behind" then some (.bytes beh tb) else if y = Str.ofString "mirror" then some (.bytes mir tm) else m y) → News h₀ L h3 [(P, LCg.lst vs), (L + 10, o10), (L + 9, o9), (L + 8, o8), (L + 7, o7), (L + 6, o6), (L + 5, o5), (L + 4, o4), (L + 3, o3), (L + 2, o2), (L + 1, o1)] →
        wpN (model PySem.Challenge.rw_ph0009_01.row.prog w) (lawA L) (execs (lawRest 13) (lawEnv L)) Q E { s with heap := h3, toks := tk3 }) →
      wpN (model PySem.Challenge.rw_ph0009_01.row.prog w) (lawA L) (execs (lawRest 12) (lawEnv L)) Q E { s with heap := h2, toks := tk2 } := by
    clear F2 N2
    intro h2 tk2 _ _ F2 N2 hgo
    rw [lawR 12 (by decide)]
    conv in lawStmt _ => whnf
    refine wpN_execs_cons (wpN_Assign_Name (wpN_IfExp (wpAny_ofH ?_)))
    by_cases hne : ls = []
    · obtain rfl : lb = #[] := by
        have : lb.size = 0 := by rw [← KBw.ints_length, hlb, hne]; rfl
        exact Array.eq_empty_of_size_eq_zero this
      k_steps
      refine ⟨?_⟩
      rw [if_neg (by simp)]
      refine wpN_of (wpAny_ofH ?_)
      k_steps
      refine ⟨?_⟩
      k_steps
      rename Fr _ _ _ _ => F3
      rename News _ _ _ _ => N3
      exact hgo #[] _ _ _ (by rw [hne]; rfl) F3 N3
    · have hls : 0 < ls.length := List.length_pos_iff.mpr hne
      have hlne : lb.toList ≠ [] := fun e => hne (by rw [← hlb]; unfold KBw.bInts; rw [e]; rfl)
      k_steps
      refine ⟨?_⟩
      rw [if_pos (by simp [hlne])]
      refine wpN_CallA (P := (hd.heap_39 w.params).In) (.ref 35) (wpAny_ofH ?_) (keeps_K (by k_is))
      k_steps
      refine ⟨rfl, ?_⟩
      k_steps
      refine ⟨hK.keeps F2.keep, ?_⟩
      k_dflt (refine' byteswap_ok w mean mg mb lb ls _ _ ls.length 1 _ hlb (by omega) (by omega) (by omega) (by omega) _ _ _ _ _ _ _ _ _ _ _ _ _ _ _ _ _ hLb F2 hK N2 hT rfl ?_ ?_ ?_)
      · decide
      · show 7 + 10 < 9900; decide
      intro beh tb h3 tk3 hs3 F3 N3
      have hbe := swap_whole hs3
      clear hs3 F2 N2
      k_steps
      rename Fr _ _ _ _ => F4
      rename News _ _ _ _ => N4
      exact hgo beh tb _ _ hbe F4 N4
  refine hbeh _ _ _ rfl F2 N2 fun beh tb h3 tk3 hbe F3 N3 => ?_
  clear hbeh F2 N2
  rw [lawR 13 (by decide)]
  conv in lawStmt _ => whnf
  refine holdN_cons ?_
  k_steps
  refine ⟨?_⟩
  k_dflt (refine' useV (cut_ok w mean mg mb mir _ ks.reverse _ hmir (by rw [List.length_reverse]; omega)) hLb F3 hK N3 hT rfl ?_ ?_ ?_)
  · decide
  · show 7 + 10 * 3 < 9900; decide
  intro t4 h4 tk4 F4 N4
  generalize hcut : cutOf ks.reverse = c
  k_steps
  refine ⟨?_⟩
  rename Fr _ _ _ _ => F5
  rename News _ _ _ _ => N5
  dsimp only
  rw [lawR (13 + 1) (by decide)]
  conv in lawStmt _ => whnf
  refine holdN_cons ?_
  k_steps
  refine ⟨LCt.Assign_ListComp_T F5 rfl (by with_unfolding_all rfl) (by with_unfolding_all rfl) (by decide) rfl (by decide) rfl rfl rfl (wpAny_ofH ?_)⟩
  k_steps
  rename IsRange _ _ _ _ _ _ _ _ => hr
  rename Fr _ _ _ _ => F6
  rename News _ _ _ _ => N6
  refine ⟨LCt.CompSrcT.range rfl F6 N6 hr (small_one (by omega) (by omega) (by omega) (by omega)) (rangeSize_nat _ _) (by rw [sizeLine_eq]; omega) fun g => ?_⟩
  (try clear F5); (try clear N5)
  refine rest_eachT (fun i ys => IntsAre ys (((List.range i).filter fun p => decide ((ls.drop p).take n = ks)).map fun (p : Nat) => (ls.length : Int) - n - p)) .nil ?tt ?ft
  case tt =>
    intro i v I oI C oC D' m₂ ys' h tk E' hi' hJ hv hC hx F N off ne
    obtain ⟨t, rfl⟩ := hv
    have e0 : (0 + (i : Int)) = (i : Int) := by omega
    rw [e0] at hx
    clear e0
    have hcmp : ((KBy.picked lb (some (i : Int)) (some ((i : Int) + (n : Int)))).toList == ob.toList) = decide ((ls.drop i).take n = ks) := by
      have e4 : clipAt ls.length ((i : Int) + (n : Int)) = min (i + n) ls.length := by
        rw [show ((i : Int) + (n : Int)) = ((i + n : Nat) : Int) by omega, clipAt_nat]
      rw [bytes_eq_ints, KBc.ints_picked hlb, hob]
      simp only [Option.elim, clipAt_nat, e4]
      rw [show min i ls.length = i by omega, show min (i + n) ls.length = i + n by omega, show i + n - i = n by omega]
    refine wpAny_ofH ?_
    k_steps
    rename Fr _ _ _ _ => F8
    rename News _ _ _ _ => N8
    refine ⟨?_⟩
    rw [hcmp]
    by_cases hmat : (ls.drop i).take n = ks
    · rw [if_pos (by rw [decide_eq_true_eq]; exact hmat)]
      refine wpAny_ofH ?_
      k_steps
      rename Fr _ _ _ _ => F9
      rename News _ _ _ _ => N9
      refine ⟨⟨_, _, _, rfl, F9, N9, off, trivial, rfl, ?_⟩⟩
      rw [List.range_succ, List.filter_append, List.map_append, List.filter_cons_of_pos (by rw [decide_eq_true_eq]; exact hmat), List.filter_nil, List.map_cons, List.map_nil]
      exact ints_snoc hJ
    · rw [if_neg (by rw [decide_eq_true_eq]; exact hmat)]
      refine ⟨_, _, _, rfl, F8, N8, off, trivial, rfl, ?_⟩
      rw [List.range_succ, List.filter_append, List.map_append, List.filter_cons_of_neg (by rw [decide_eq_true_eq]; exact hmat), List.filter_nil, List.map_nil, List.append_nil]
      exact hJ
  case ft =>
    intro ys hJ D' h7 tk7 F7 N7 ho7
    have hth : IntsAre ys (thereN ks ls) := by
      unfold thereN
      rw [hkl, show ls.length + 1 - n = ((ls.length : Int) - n + 1 - 0).toNat by omega]
      exact hJ
    clear hJ
    simp only [LCg.Off1, and_true] at ho7
    refine ⟨?_⟩
    dsimp only
    rw [lawR (13 + 1 + 1) (by decide)]
    conv in lawStmt _ => whnf
    refine wpN_execs_cons (wpN_If (wpN_isTrue_Compare1 (wpN_Call (P := (hd.heap_39 w.params).In) (.ref 64) (wpAny_ofH ?_) (keeps_K (by k_is)))))
    k_steps
    refine ⟨rfl, wpN_spliced_cons (wpN_ofH ?_)⟩
    k_steps
    refine ⟨wpN_spliced_cons ?_⟩
    simp only [Bool.false_eq_true, if_false]
    refine wpN_ofH ?_
    k_steps
    refine ⟨wpN_spliced_cons ?_⟩
    simp only [Bool.false_eq_true, if_false]
    refine wpN_ofH ?_
    k_steps
    refine ⟨wpN_spliced_cons ?_⟩
    simp only [Bool.false_eq_true, if_false]
    refine wpN_CallA (P := (hd.heap_39 w.params).In) (.ref 52) (wpAny_ofH ?_) (keeps_K (by k_is))
    k_steps
    refine ⟨rfl, ?_⟩
    k_steps
    refine ⟨hK.keeps F7.keep, ?_⟩
    have hcl : c ≤ ks.reverse.length := by rw [← hcut]; exact Nat.le_trans (cutOf_le _) (Nat.sub_le _ _)
    have hrl : ks.reverse.length = n := by rw [List.length_reverse, hkl]
    have hrr := reachN_in (ks := ks.reverse) (place := c) (by omega) hcl
    have hmath := search_there ls (by omega) hkr
    rw [hcut] at hmath
    k_dflt (refine' reach_ok w mean mg mb mir _ _ ks.reverse c _ hmir (by omega) hcl _ _ _ _ _ _ _ _ _ _ _ _ _ _ _ _ _ hLb F7 hK N7 hT rfl ?_ ?_ ?_)
    · decide
    · show 7 + 10 * 2 < 9900; decide
    intro t8 h8 tk8 F8 N8
    refine wpN_spliced_nil ⟨hK.keeps F8.keep, ?_⟩
    refine wpN_of ?_
    clear F7 N7
    generalize reachN ks.reverse c 0 = r at hrr hmath
    k_dflt (refine' useL (search_ok w mean mg mb mir beh _ _ _ _ ks.reverse ls.reverse c r _ hmir hbe (by omega) (by rw [List.length_reverse]; omega) hcl hrr.1 (by omega)) hLb F8 hK N8 hT rfl ?_ ?_ ?_)
    · decide
    · show 7 + 10 * 1 < 9900; decide
    intro D9 ys9 n9 h9 tk9 hI9 F9 N9 hD9
    rw [hmath] at hI9
    have hthl : (thereN ks ls).length ≤ 101 := by
      unfold thereN
      rw [List.length_map]
      exact Nat.le_trans (List.length_filter_le _ _) (by rw [List.length_range]; omega)
    clear hmath
    generalize thereN ks ls = th at hI9 hth hthl
    refine wpN_ofH ?_
    dsimp only
    k_steps
    refine ⟨?_⟩
    k_steps
    rename Fr _ _ _ _ => F10
    rename News _ _ _ _ => N10
    refine wpN_of (wpAny_execs_nil ?_)
    dsimp only
    exact hC P vs ks ob mir t1 t2 tm o1 o2 o3 o4 o5 o6 o7 o8 o9 o10 _ _ _ n hn2 hn8 hkl hkr hI hob hmir hP rfl d3 d5 d6 d8 d9 d10 F10 (fun p hp => N10 p (.tail _ (.tail _ (.tail _ hp))))
end Mine
end

section
open PySem PySem.W PyProof.Rows PySem.Calls
set_option maxRecDepth 100000
namespace Mine
section
variable {M : Model} {A : Around} {E : Value → Shared → Prop} {s : Shared} {env : Env}
theorem wpN_attempt {α : Type} {m : Sem α} {Q : Except Value α → Shared → Prop} (h : wpN M A m (fun a => Q (.ok a)) (fun e => Q (.error e)) s) :
    wpN M A m.attempt Q E s := fun Γ p hΓ hF => by
  have := h Γ p hΓ hF
  rw [Sem.wp_attempt]; exact this
/-- a comprehension, its block in the logic of the fit stack; it does not raise -/
theorem wpN_comprehension {e : Expr} {scope : Scope} {pos : Pos} {newAcc first : Sem Value} {g : Comprehension} {gs : List Comprehension} {cl : List (Str × Addr)} {Q : Value → Shared → Prop}
    (hcl : clausesOf e = g :: gs) (hs : ∀ x, foldedSetIterable g.iter env x = pure x) (hclos : closureFor scope env = pure cl)
    (hkind : scope.kind = .function) (hnames : ∀ x ∈ scope.names, x.2 = .local → scope.names.lookup x.1 = some .local)
    (h : wpAny M A first (fun x s₁ => wpAny M A (pyIter x) (fun it s₂ => wpAny M A newAcc (fun acc s₃ =>
      wpAny M A (newFunctionEnv scope env.globals cl [] env.qual none .none (some env)) (fun cenv s₄ =>
        codeN M A (.compStart e 0 it acc { cenv with scope := relabel scope env }) (fun r s' => match r with
          | .ok _ => ∃ m, s'.heap.Ns cenv.locals m ∧ ∀ h', Heap.SameBut cenv.locals s'.heap h' → Q acc { s' with heap := h' }
          | .error _ => False) s₄) E s₃) E s₂) E s₁) E s) :
    wpN M A (comprehension e scope env pos newAcc false first none) Q E s := by
  unfold comprehension
  rw [hclos, hcl]
  refine wpN_bindA (wpAny_mono h (fun x s₁ h₁ => wpN_bindA (wpAny_standAt (wpN_bindA (wpAny_of_eq (hs x) (wpN_bindA (wpAny_holding (wpAny_mono h₁ (fun it s₂ h₂ => ?_) fun _ _ h' => h'))))))) fun _ _ h' => h')
  show wpN M A (newAcc >>= _) Q E s₂
  refine wpN_bindA (wpAny_mono h₂ (fun acc s₃ h₃ => wpN_bindA (wpAny_pure (wpN_bindA (wpAny_mono h₃ (fun cenv s₄ h₄ => ?_) fun _ _ h' => h')))) fun _ _ h' => h')
  dsimp only
  have hv : ∀ x ∈ (scope.names.filter fun x => (x.2 == .local || x.2 == .cell) && x.1 != (".0" : Str)).reverse, x.2 = .local →
      Env.kindOf { cenv with scope := relabel scope env } x.1 = some .local := fun x hx hl => lookup_relabel_local (hnames x (List.mem_filter.mp (List.mem_reverse.mp hx)).1 hl)
  refine wpN_holding (wpN_bind (wpN_attempt (wpN_holding (wpN_run (codeN_mono h₄ fun r s' hr => ?_)))))
  cases r with
  | ok f =>
    obtain ⟨m, hn, hr⟩ := hr
    exact wpN_bindA (wpAny_holding (wpAny_comp_letGo (cenv := { cenv with scope := relabel scope env }) hkind _ s' m hv hn fun h' m' _ hs' => wpN_pure (hr h' hs')))
  | error x => exact hr.elim
end
section
variable {prog : Program} {w : World} {A : Around} {E : Value → Shared → Prop} {s : Shared} {env : Env} {R : Result → Shared → Prop} {elt iter : Expr} {x : Str} {px pos : Pos} {scope : Scope} {it acc : Value}
theorem codeN_compLoop (I : Nat → Shared → Prop)
    (turn : ∀ n s, I n s → wpAny (model prog w) A (pyNext it) (fun r s₁ => match r with
      | none => R (.ok .next) s₁
      | some v => wpAny (model prog w) A (assign (.Name x px) env v) (fun _ s₂ => wpN (model prog w) A (eval elt env) (fun y s₄ =>
          wpAny (model prog w) A (call (.builtin "list.append") [acc, y]) (fun _ s₅ => ∃ m, m < n ∧ I m s₅) (fun _ _ => False) s₄) (fun _ _ => False) s₂) (fun _ _ => False) s₁) (fun _ _ => False) s)
    (n : Nat) (h : I n s) : codeN (model prog w) A (.compLoop (.ListComp elt [⟨.Name x px, iter, [], 0⟩] scope pos) 0 it acc env) R s := by
  refine codeN_loop rfl rfl I (fun n s hI => ?_) n h
  show wpN _ A ((compTurn (.ListComp elt [⟨.Name x px, iter, [], 0⟩] scope pos) 0 it acc env).onRaise (fun x => do noteFrame x env; theTreesLotGoes x)) _ _ s
  refine wpN_onRaise (wpN_never ?_)
  rw [compTurn_list1]
  refine wpN_bindA (wpAny_standAt (wpN_bindA (wpAny_mono (turn n s hI) (fun r s₁ h₁ => ?_) fun _ _ h' => h')))
  cases r with
  | none => exact wpN_pure h₁
  | some v =>
    show wpN _ A (letOwnedTupleGo (.Name x px) it v >>= _) _ _ _
    refine wpN_bindA (wpAny_of_eq (a := ()) rfl (wpN_bindA (wpAny_mono h₁ (fun _ s₂ h₂ => ?_) fun _ _ h' => h')))
    refine wpN_bind (wpN_bind (wpN_mono h₂ (fun y s₄ h₄ => wpN_bindA (wpAny_mono h₄ (fun _ s₅ h₅ => wpN_pure (wpN_pure (.inl ⟨rfl, h₅⟩))) fun _ _ h' => h')) fun _ _ h' => h'))
theorem codeN_compStart
    (h0 : codeN (model prog w) A (.compLoop (.ListComp elt [⟨.Name x px, iter, [], 0⟩] scope pos) 0 it acc env) R s)
    (h : wpAny (model prog w) A (pyIter it) (fun it' s' => codeN (model prog w) A (.compLoop (.ListComp elt [⟨.Name x px, iter, [], 0⟩] scope pos) 0 it' acc env) R s') (fun _ _ => False) s) :
    codeN (model prog w) A (.compStart (.ListComp elt [⟨.Name x px, iter, [], 0⟩] scope pos) 0 it acc env) R s := by
  refine codeN_of_tree rfl ?_
  show wpN _ _ ((compStart (.ListComp elt [⟨.Name x px, iter, [], 0⟩] scope pos) 0 it acc env).onRaise (fun x => do noteFrame x env; standAt theWindowsPlace)) _ _ s
  refine wpN_onRaise (wpN_never ?_)
  unfold compStart
  show wpN _ _ (ask >>= _) _ _ s
  refine wpN_bindA (wpAny_askSetting ?_)
  dsimp only
  split
  · first
      | exact wpN_bindA (wpAny_pure (wpN_pure (And.intro rfl h0)))
      | exact wpN_pure (And.intro rfl h0)
  · refine wpN_bindA (wpAny_rule ?_)
    show wpN _ _ (standAt iter.pos >>= _) _ _ s
    refine wpN_bindA (wpAny_standAt (wpN_bindA (wpAny_mono h (fun it' s' h' => wpN_pure ⟨rfl, h'⟩) fun _ _ x => x)))
end
section
variable {prog : Program} {w : World} {A : Around} {E : Value → Shared → Prop} {s : Shared} {h₀ : Heap} {L : Addr} {m : Str → Option Value} {env : Env} {elt iter : Expr} {x : Str} {px pos : Pos} {scope : Scope} {cl : List (Str × Addr)} {news : List (Addr × Obj)}
open LCg
/-- the list of a range, its elements in the logic of the fit stack -/
theorem lcN_range {Q : Value → Shared → Prop} {a : Int} {n : Nat} (_F₀ : Fr h₀ L s.heap m) (_N₀ : News h₀ L s.heap news) (J : Nat → List Value → Prop) (h0 : J 0 [])
    (hclos : closureFor scope env = pure cl) (hcell : ∀ y ∈ scope.names, y.2 ≠ .cell) (hkind : scope.kind = .function)
    (hnames : ∀ y ∈ scope.names, y.2 = .local → scope.names.lookup y.1 = some .local) (hx : scope.names.lookup x = some .local) (hh : A.handled = none) (hsz : n ≤ sizeLine)
    (hit : wpAny (model prog w) A (eval iter env) (RangeAt s h₀ L m news a 1 n) (fun _ _ => False) s)
    (turn : ∀ i t I oI C oC D m₂ ys h tk, i < n → J i ys → NsObj oC m₂ → m₂ x = some (.int (a + i) t) → Fr h₀ L h m → News h₀ L h ((I, oI) :: (C, oC) :: (D, lst ys) :: news) → Off3 I C D news → ((@Ne Nat I C) ∧ (@Ne Nat I D) ∧ (@Ne Nat C D)) →
      wpN (model prog w) A (eval elt (compEnvC scope cl C env)) (CompEnd h₀ L m { s with heap := h, toks := tk } I oI C oC D (lst ys) (fun _ => True) (fun y news' => news' = news ∧ J (i + 1) (ys ++ [y]))) (fun _ _ => False) { s with heap := h, toks := tk })
    (fin : ∀ D ys h tk, J n ys → Fr h₀ L h m → News h₀ L h ((D, lst ys) :: news) → Off1 D news → Q (.ref D) { s with heap := h, toks := tk })
    (hs : ∀ x, foldedSetIterable iter env x = pure x := by intro _; rfl) :
    wpN (model prog w) A (eval (.ListComp elt [⟨.Name x px, iter, [], 0⟩] scope pos) env) Q E s := by
  rw [eval_ListComp]
  refine wpN_comprehension rfl hs hclos hkind hnames (wpAny_never (wpAny_mono hit (fun xv s₁ h₁ => ?_) fun _ _ e => e))
  obtain ⟨r, b, t, u, v, hq, tq, rfl, rfl, hr, hsm, hn, F, N⟩ := h₁.out
  refine wpAny_pyIter_range hr hsm ?_
  dsimp only
  rw [hn]
  generalize hI : hq.objs.size = I
  generalize hH : hq.push { cls := .type "range_iterator", data := .fields #[rawInt a, rawInt (n : Int), rawInt 1] } = H₂
  have up : ∀ b o, hq.get? b = some o → H₂.get? b = some o := fun b o e => hH ▸ Heap.get?_push_of_some _ e
  have hst₂ : IsRangeIter H₂ I a (n : Int) 1 := by subst hI; rw [← hH]; exact Heap.get?_push_size _ rfl
  have hIL : L ≠ I := by rw [← hI]; exact Nat.ne_of_lt F.ns.lt
  have hI₀ : h₀.get? I = none := by rw [← hI]; exact next_is_new F
  have offI : ∀ p ∈ news, p.1 ≠ I := fun p hp => by rw [← hI]; exact Nat.ne_of_lt (Heap.lt_size (N p hp).1)
  have hIlt : I < H₂.objs.size := by rw [← hH, Heap.size_push, hI]; exact Nat.lt_succ_self _
  have F₂ : Fr h₀ L H₂ m := F.keeps up
  have N₂ : News h₀ L H₂ news := N.grown up
  have W : Walks prog w A I [I] [I] n (fun i v => ∃ t, v = .int (a + (i : Int)) t) (fun i h => IsRangeIter h I (a + (i : Nat) * 1) ((n : Int) - (i : Nat)) 1) := range_walks hh a n
  clear hr F N up
  refine wpAny_newObj_type (wpAny_newFunctionEnv hcell (by intro y hy; simp at hy) (fun h₁ hns₁ hsb₁ => ?_) hkind)
  dsimp only at hns₁ hsb₁ ⊢
  generalize hH2 : H₂.push { cls := .type "list", dict := none, data := .seq ([] : List Value).toArray } = H2 at hns₁ hsb₁ ⊢
  have hC : H2.objs.size = H₂.objs.size + 1 := by rw [← hH2, Heap.size_push]
  have hDC : H₂.objs.size ≠ H2.objs.size := by rw [hC]; exact Nat.ne_of_lt (Nat.lt_succ_self _)
  have below : ∀ b, b < H₂.objs.size → b ≠ H2.objs.size ∧ b ≠ H₂.objs.size := fun b hb => ⟨by rw [hC]; exact Nat.ne_of_lt (Nat.lt_succ_of_lt hb), Nat.ne_of_lt hb⟩
  have old : ∀ b o, H₂.get? b = some o → h₁.get? b = some o := fun b o e => hsb₁.extBut b o (below b (Heap.lt_size e)).1 (Heap.get?_push_of_some _ (hH2 ▸ Heap.get?_push_of_some _ e))
  have hacc : h₁.get? H₂.objs.size = some (lst []) := hsb₁.extBut _ _ hDC (Heap.get?_push_of_some _ (hH2 ▸ Heap.get?_push_size _ rfl))
  have fresh₀ : ∀ a, H₂.objs.size ≤ a → h₀.get? a = none := fun a ha => by
    cases e : h₀.get? a with
    | none => rfl
    | some o' => exact absurd (Heap.lt_size (F₂.keep a o' e)) (Nat.not_lt.mpr ha)
  have hD₀ : h₀.get? H₂.objs.size = none := fresh₀ _ (Nat.le_refl _)
  have hC₀ : h₀.get? H2.objs.size = none := fresh₀ _ (by rw [hC]; exact Nat.le_succ _)
  have hLlt : L < H₂.objs.size := F₂.ns.lt
  have hDL : H₂.objs.size ≠ L := Ne.symm (below L hLlt).2
  have hCL : H2.objs.size ≠ L := Ne.symm (below L hLlt).1
  have hCI : I ≠ H2.objs.size := (below I hIlt).1
  have hDI : I ≠ H₂.objs.size := (below I hIlt).2
  have off₀ : Off3 I H2.objs.size H₂.objs.size news := Off3.of fun p hp => ⟨offI p hp, (below _ (Heap.lt_size (N₂ p hp).1)).1, (below _ (Heap.lt_size (N₂ p hp).1)).2⟩
  have hst₁ : IsRangeIter h₁ I a (n : Int) 1 := old _ _ hst₂
  have loop : ∀ s₃ : Shared, s₃ = { s with heap := h₁, toks := tq + ([] : List (Str × Value)).length } →
      codeN (model prog w) A (.compLoop (.ListComp elt [⟨.Name x px, iter, [], 0⟩] scope pos) 0 (.ref I) (.ref H₂.objs.size) (compEnvC scope cl H2.objs.size env))
        (fun r s' => match r with
          | .ok _ => ∃ m, s'.heap.Ns H2.objs.size m ∧ ∀ h', Heap.SameBut H2.objs.size s'.heap h' → Q (.ref H₂.objs.size) { s' with heap := h' }
          | .error _ => False) s₃ := by
    rintro s₃ rfl
    refine codeN_compLoop
      (fun k s' => ∃ h' tk i ys m', s' = { s with heap := h', toks := tk } ∧ i ≤ n ∧ k = n + 1 - i ∧ J i ys ∧ ys.length = i ∧ IsRangeIter h' I (a + (i : Nat) * 1) ((n : Int) - (i : Nat)) 1 ∧ Fr h₀ L h' m ∧ h'.Ns H2.objs.size m' ∧ News h₀ L h' ((H₂.objs.size, lst ys) :: news)) ?_ (n + 1)
      ⟨h₁, _, 0, [], _, rfl, Nat.zero_le _, rfl, h0, rfl, by simpa using hst₁, F₂.keeps old, hns₁, fun p hp => ?_⟩
    · rintro k s' ⟨h', tk, i, ys, m', rfl, hi, rfl, hJ, hyl, hst', F', hn', N'⟩
      by_cases hlt : i < n
      · refine W.item i _ _ _ hlt hst' fun v h₂ tk₂ hPv hst₂ hk₂ => ?_
        obtain ⟨t, rfl⟩ := hPv
        refine wpAny_assign_Name (wpAny_storeName_local (lookup_relabel_local hx) (hn'.at' fun o e => hk₂ _ o (by simpa using Ne.symm hCI) e) (fun h₃ hn₃ hs₃ => ?_) (by simp [compEnvC, relabel, hkind]))
        have hst₃ : IsRangeIter h₃ I (a + ((i + 1 : Nat) : Nat) * 1) ((n : Int) - ((i + 1 : Nat) : Nat)) 1 := (hs₃.2 I hCI).trans hst₂
        obtain ⟨oC, heC, hoC⟩ := ns_obj hn₃
        have F₃ : Fr h₀ L h₃ m := (fr_but F' hk₂ hIL hI₀).change hs₃ hCL hC₀
        have off3 := off₀.mem
        have N₂' : News h₀ L h₂ ((H₂.objs.size, lst ys) :: news) := news_but N' hk₂ fun p hp => by
          rcases List.mem_cons.mp hp with rfl | hp
          · exact Ne.symm hDI
          · exact (off3 p hp).1
        obtain ⟨oI, heI⟩ : ∃ oI, h₃.get? I = some oI := ⟨_, hst₃⟩
        have N₃ : News h₀ L h₃ ((I, oI) :: (H2.objs.size, oC) :: (H₂.objs.size, lst ys) :: news) := fun p hp => by
          rcases List.mem_cons.mp hp with rfl | hp
          · exact ⟨heI, Ne.symm hIL, hI₀⟩
          · rcases List.mem_cons.mp hp with rfl | hp
            · exact ⟨heC, hCL, hC₀⟩
            · have z := N₂' p hp
              refine ⟨hs₃.extBut _ _ ?_ z.1, z.2⟩
              rcases List.mem_cons.mp hp with rfl | hp
              · exact hDC
              · exact (off3 p hp).2.1
        refine wpN_mono (turn i t I oI H2.objs.size oC H₂.objs.size _ ys h₃ _ hlt hJ hoC (by simp) F₃ N₃ off₀ ⟨hCI, hDI, Ne.symm hDC⟩) (fun y s₄ h₄ => ?_) fun _ _ e => e
        obtain ⟨h₄, tk₄, news₄, rfl, F₄, N₄, off₄, _, rfl, R₄⟩ := h₄
        have zI := (N₄ (I, oI) List.mem_cons_self).1
        have zC := (N₄ (H2.objs.size, oC) (List.mem_cons_of_mem _ List.mem_cons_self)).1
        have zD := (N₄ (H₂.objs.size, lst ys) (List.mem_cons_of_mem _ (List.mem_cons_of_mem _ List.mem_cons_self))).1
        have N₄' : News h₀ L h₄ news₄ := fun p hp => N₄ p (List.mem_cons_of_mem _ (List.mem_cons_of_mem _ (List.mem_cons_of_mem _ hp)))
        have hst₄ : IsRangeIter h₄ I (a + ((i + 1 : Nat) : Nat) * 1) ((n : Int) - ((i + 1 : Nat) : Nat)) 1 := by
          show h₄.get? I = some _
          rw [zI, ← heI]; exact hst₃
        refine append_at (hsz := by show ys.toArray.size ≤ sizeLine; rw [List.size_toArray, hyl]; exact Nat.le_trans hi hsz) zD fun h₅ hs₅ hD₅ => ?_
        have off4 := off₄.mem
        refine ⟨n + 1 - (i + 1), by omega, h₅, tk₄, i + 1, ys ++ [y], _, rfl, hlt, rfl, R₄, by rw [List.length_append, List.length_singleton, hyl], (hs₅.2 I hDI).trans hst₄, F₄.change hs₅ hDL hD₀, (hoC.ns zC).sameBut hs₅ (Ne.symm hDC), fun p hp => ?_⟩
        rcases List.mem_cons.mp hp with rfl | hp
        · exact ⟨hD₅.trans (congrArg some (lst_snoc ys y)), hDL, hD₀⟩
        · exact ⟨hs₅.extBut _ _ (off4 p hp).2.2 (N₄' p hp).1, (N₄' p hp).2⟩
      · obtain rfl : i = n := Nat.le_antisymm hi (Nat.not_lt.mp hlt)
        refine W.done _ _ _ hst' fun h₂ tk₂ hk₂ => ?_
        have off3 := off₀.mem
        refine ⟨m', hn'.at' fun o e => hk₂ _ o (by simpa using Ne.symm hCI) e, fun h'' hs'' => ?_⟩
        have F3 := (fr_but F' hk₂ hIL hI₀).change hs'' hCL hC₀
        have N3 : News h₀ L h₂ ((H₂.objs.size, lst ys) :: news) := news_but N' hk₂ fun p hp => by
          rcases List.mem_cons.mp hp with rfl | hp
          · exact Ne.symm hDI
          · exact (off3 p hp).1
        refine fin _ ys h'' tk₂ hJ F3 (fun p hp => ?_) off₀.one
        refine ⟨hs''.extBut _ _ ?_ (N3 p hp).1, (N3 p hp).2⟩
        rcases List.mem_cons.mp hp with rfl | hp
        · exact hDC
        · exact (off3 p hp).2.1
    · rcases List.mem_cons.mp hp with rfl | hp
      · exact ⟨hacc, hDL, hD₀⟩
      · exact ⟨old _ _ (N₂ p hp).1, (N₂ p hp).2⟩
  refine codeN_compStart (loop _ rfl) (W.self 0 _ _ _ (by show IsRangeIter h₁ I (a + ((0 : Nat) : Int) * 1) ((n : Int) - ((0 : Nat) : Int)) 1; simpa using hst₁) (loop _ rfl))
end
end Mine
end

section
open PySem PySem.W PyProof.Rows
set_option maxRecDepth 100000
set_option maxHeartbeats 8000000
namespace Mine
example : PySem.Challenge.rw_ph0009_01 = PySem.Challenge.rw_ph0009_01 ∧ hd.heap_39 = hd.heap_39 := by
  k_fill; exact ⟨rfl, rfl⟩
local macro_rules | `(tactic| walk_at "eval ListComp") => `(tactic| refine Hold.out ?_)
local macro_rules | `(tactic| walk_at "exec Assign cons ListComp") => `(tactic| refine Hold.out ?_)
local macro_rules | `(tactic| walk_at "call builtin:sum") => `(tactic| refine Hold.out ?_)
local macro_rules | `(tactic| walk_at "call ref") => `(tactic| refine Hold.out ?_)
def perL (ks : List Int) : List Int := (((List.range ks.length).map (· + 1)).filter fun st => decide (ks.drop st = ks.take (ks.length - st))).map fun (st : Nat) => (st : Int)
theorem mem_perL {ks : List Int} {z : Int} : z ∈ perL ks ↔ ∃ st : Nat, z = (st : Int) ∧ 0 < st ∧ st ≤ ks.length ∧ ks.drop st = ks.take (ks.length - st) := by
  unfold perL
  simp only [List.mem_map, List.mem_filter, List.mem_range, decide_eq_true_eq]
  constructor
  · rintro ⟨st, ⟨⟨i, hi, rfl⟩, h⟩, rfl⟩
    exact ⟨i + 1, rfl, by omega, by omega, h⟩
  · rintro ⟨st, rfl, h0, h1, h⟩
    exact ⟨st, ⟨⟨st - 1, by omega, by omega⟩, h⟩, rfl⟩
theorem perL_pos {ks : List Int} (h : 0 < ks.length) : 0 < (perL ks).length :=
  List.length_pos_of_mem (mem_perL.mpr ⟨ks.length, rfl, h, Nat.le_refl _, by rw [List.drop_length, Nat.sub_self, List.take_zero]⟩)
local macro_rules | `(tactic| walk_at "call builtin:max") => `(tactic| refine Hold.out ?_)
local macro_rules | `(tactic| walk_at "subscriptTail Name Slice ref ref") => `(tactic| refine Hold.out ?_)
def LawD (w : World) (h₀ : Heap) (L : Addr) (s : Shared) (Q : Flow → Shared → Prop) (E : Value → Shared → Prop) : Prop :=
  ∀ (P Dn : Addr) (vs ysn : List Value) (ks NL : List Int) (ob mir : Array UInt8) (t1 t2 t3 t4 t5 : Tok) (o1 o2 o3 o4 o5 o6 o7 o8 o9 o10 : Obj) (m : Str → Option Value) (h : Heap) (tk n c : Nat), 2 ≤ n → n ≤ 8 → ks.length = n → (∀ k ∈ ks, 0 ≤ k ∧ k < 256) → IntsAre vs ks → KBw.bInts ob = ks → KBw.bInts mir = ks.reverse → c = cutOf ks → c < reachN ks c 0 → 0 < reachN ks c 0 ∧ reachN ks c 0 ≤ ks.length →
    IntsAre ysn NL → NL.length = n + 1 → (∀ i, i ≤ n → NL.getD i 0 = (reachN ks i 0 : Int)) → m (Str.ofString "mirror") = some (.bytes mir t3) →
    o3.data = .cell (some (.int (n : Int) t1)) → o5.data = .cell (some (.ref P)) → o6.data = .cell (some (.bytes ob t2)) → o8.data = .cell (some (.int (c : Int) t4)) → o9.data = .cell (some (.ref Dn)) → o10.data = .cell (some (.int (reachN ks c 0 : Nat) t5)) →
    Fr h₀ L h m → News h₀ L h [(Dn, LCg.lst ysn), (P, LCg.lst vs), (L + 10, o10), (L + 9, o9), (L + 8, o8), (L + 7, o7), (L + 6, o6), (L + 5, o5), (L + 4, o4), (L + 3, o3), (L + 2, o2), (L + 1, o1)] → wpN (model PySem.Challenge.rw_ph0009_01.row.prog w) (lawA L) (execs (lawRest 20) (lawEnv L)) Q E { s with heap := h, toks := tk }
theorem segC (w : World) (mean : ExcName → Option Value) (mg mb : Str → Option Value) (h₀ : Heap) (L : Addr) (s : Shared) (Q : Flow → Shared → Prop) (E : Value → Shared → Prop)
    (hK : (hd.heap_39 w.params).In h₀) (hT : Top hd.view_39 (looseW hd.view_39 []) mean mg mb h₀) (hD : LawD w h₀ L s Q E) : LawC w h₀ L s Q E := by
  intro P vs ks ob mir t1 t2 t3 o1 o2 o3 o4 o5 o6 o7 o8 o9 o10 m h tk n hn2 hn8 hkl hkr hI hob hmir hP hm d3 d5 d6 d8 d9 d10 F N
  have hLb : Below callerA h₀ [] h₀ := below_caller h₀
  rw [at_name hm] at F
  rw [lawR 16 (by decide)]
  conv in lawStmt _ => whnf
  refine holdN_cons ?_
  k_steps
  refine ⟨?_⟩
  k_dflt (refine' useV (cut_ok w mean mg mb ob _ ks _ hob (by omega)) hLb F hK N hT rfl ?_ ?_ ?_)
  · decide
  · show 7 + 10 * 3 < 9900; decide
  intro t4 h4 tk4 F4 N4
  have hcl : cutOf ks ≤ ks.length - 1 := cutOf_le ks
  generalize hcut : cutOf ks = c at hcl
  k_steps
  rename Obj => o8'
  rename (o8'.data = _) => d8'
  clear d8
  refine ⟨?_⟩
  rename Fr _ _ _ _ => F5
  rename News _ _ _ _ => N5
  dsimp only
  rw [lawR (16 + 1) (by decide)]
  conv in lawStmt _ => whnf
  refine wpN_execs_cons (wpN_Assign_Name (lcN_range (a := 0) (n := n + 1) F5 N5 (fun i ys => IntsAre ys ((List.range i).map fun p => (reachN ks p 0 : Int))) .nil (by with_unfolding_all rfl) (by decide) rfl (by decide) rfl rfl (by rw [sizeLine_eq]; omega) (wpAny_ofH ?hit) ?turn ?fin) (by with_unfolding_all rfl))
  case hit =>
    k_steps
    rename Fr _ _ _ _ => F6
    rename News _ _ _ _ => N6
    rename IsRange _ _ _ _ _ _ _ _ => hr
    exact ⟨⟨_, _, _, _, _, _, _, rfl, rfl, hr, small_one (by omega) (by omega) (by omega) (by omega), by rw [rangeSize_nat]; omega, F6, N6⟩⟩
  case turn =>
    intro i t I oI C oC D m₂ ys h tk hi hJ hC hx F N off ne
    have e0 : (0 + (i : Int)) = (i : Int) := by omega
    rw [e0] at hx
    clear e0
    refine wpN_CallA (P := (hd.heap_39 w.params).In) (.ref 52) (wpAny_ofH ?_) (keeps_K (by k_is))
    k_steps
    refine ⟨rfl, ?_⟩
    k_steps
    rename Fr _ _ _ _ => F7
    rename News _ _ _ _ => N7
    refine ⟨hK.keeps F7.keep, ?_⟩
    k_dflt (refine' reach_ok w mean mg mb ob _ _ ks i _ hob (by omega) (by omega) _ _ _ _ _ _ _ _ _ _ _ _ _ _ _ _ _ hLb F7 hK N7 hT rfl ?_ ?_ ?_)
    · decide
    · show 7 + 10 * 2 < 9900; decide
    intro t8 h8 tk8 F8 N8
    refine ⟨h8, tk8, _, rfl, F8, N8, off, trivial, rfl, ?_⟩
    rw [List.range_succ, List.map_append]
    exact ints_snoc hJ
  case fin =>
    intro D ys h tk hJ F6 N6 ho
    simp only [LCg.Off1, and_true] at ho
    k_steps
    rename Obj => o9'
    rename (o9'.data = _) => d9'
    clear d9
    rename Fr _ _ _ _ => F7
    rename News _ _ _ _ => N7
    dsimp only
    rw [lawR (16 + 1 + 1) (by decide)]
    conv in lawStmt _ => whnf
    refine holdN_cons ?_
    k_steps
    refine ⟨LCt.ListComp_T F7 (by with_unfolding_all rfl) (by decide) rfl (by decide) rfl (wpAny_ofH ?_)⟩
    k_steps
    rename IsRange _ _ _ _ _ _ _ _ => hr
    rename Fr _ _ _ _ => F8
    rename News _ _ _ _ => N8
    refine ⟨LCt.CompSrcT.range rfl F8 N8 hr (small_one (by omega) (by omega) (by omega) (by omega)) (rangeSize_nat _ _) (by rw [sizeLine_eq]; omega) fun g => ?_⟩
    refine rest_eachT (fun i ys => IntsAre ys ((((List.range i).map (· + 1)).filter fun st => decide (ks.drop st = ks.take (n - st))).map fun (st : Nat) => (st : Int))) .nil ?tt ?ft
    case tt =>
      intro i v I oI C oC D' m₂ ys' h tk E' hi' hJ' hv hC hx F N off ne
      obtain ⟨t, rfl⟩ := hv
      have e0 : (1 + (i : Int)) = ((i + 1 : Nat) : Int) := by omega
      rw [e0] at hx
      clear e0
      have hi2 : i + 1 ≤ n := by omega
      generalize hst : i + 1 = st at hx hi2
      dsimp only
      refine wpAny_ofH ?_
      k_steps
      have hsz : vs.toArray.size ≤ sizeLine := by rw [List.size_toArray, hI.length, sizeLine_eq]; omega
      refine ⟨kmk_slice_ints F N (News.isList N (.tail _ (.tail _ (.tail _ (.tail _ (.head _)))))) (.int _ _) .none hI (kmk_from hI (by omega)) rfl (fun D1 ws1 h1 F1 N1 l1 hw1 hc1 hl1 => ?_) (by with_unfolding_all rfl) (by intro _; with_unfolding_all rfl) hsz⟩
      k_steps
      refine ⟨kmk_slice_ints F1 N1 (News.isList N1 (.tail _ (.tail _ (.tail _ (.tail _ (.tail _ (.head _))))))) .none (.int _ _) hI (kmk_upto hI (by omega)) rfl (fun D2 ws2 h2 F2 N2 l2 hw2 hc2 hl2 => ?_) (by with_unfolding_all rfl) (by intro _; with_unfolding_all rfl) hsz⟩
      have e1 : ((st : Int)).toNat = st := by omega
      have e2 : ((n : Int) - (st : Int)).toNat = n - st := by omega
      rw [e1] at hw1
      rw [e2] at hw2
      k_steps
      refine ⟨?_⟩
      rename Fr _ _ _ _ => F3
      rename News _ _ _ _ => N3
      by_cases hmat : ks.drop st = ks.take (n - st)
      · rw [if_pos (by rw [decide_eq_true_eq]; exact hmat)]
        refine wpAny_ofH ?_
        k_steps
        refine ⟨⟨_, _, _, rfl, F3, fun p hp => N3 p (.tail _ (.tail _ hp)), off, trivial, rfl, ?_⟩⟩
        subst hst
        rw [List.range_succ, List.map_append, List.filter_append, List.map_append, List.map_cons, List.map_nil, List.filter_cons_of_pos (by rw [decide_eq_true_eq]; exact hmat), List.filter_nil, List.map_cons, List.map_nil]
        exact ints_snoc hJ'
      · rw [if_neg (by rw [decide_eq_true_eq]; exact hmat)]
        refine ⟨_, _, _, rfl, F3, fun p hp => N3 p (.tail _ (.tail _ hp)), off, trivial, rfl, ?_⟩
        subst hst
        rw [List.range_succ, List.map_append, List.filter_append, List.map_append, List.map_cons, List.map_nil, List.filter_cons_of_neg (by rw [decide_eq_true_eq]; exact hmat), List.filter_nil, List.map_nil, List.append_nil]
        exact hJ'
    case ft =>
      intro ys8 hJ8 D8 h8 tk8 F9 N9 ho8
      simp only [LCg.Off1, and_true] at ho8
      have hpe : IntsAre ys8 (perL ks) := by
        unfold perL
        rw [hkl, show (List.range n) = List.range ((n : Int) + 1 - 1).toNat by congr 1; omega]
        exact hJ8
      clear hJ8
      have hpl : (perL ks).length ≤ 8 := by
        unfold perL
        rw [List.length_map]
        exact Nat.le_trans (List.length_filter_le _ _) (by rw [List.length_map, List.length_range]; omega)
      have hpl0 : 0 < (perL ks).length := perL_pos (by omega)
      dsimp only
      k_steps
      rename Obj => o10'
      rename (_ ∈ perL ks) => hM1
      rename (∀ a : Int, a ∈ perL ks → _ ≤ a) => hM2
      rename (o10'.data = _) => d10'
      clear d10
      rename Fr _ _ _ _ => F10
      rename News _ _ _ _ => N10
      refine ⟨?_⟩
      dsimp only
      have hcr := critical (ks := ks) (by omega) hkr
      have hrr := reachN_in (ks := ks) (place := c) (by omega) (by omega)
      rw [hcut] at hcr
      obtain ⟨hp1, hp2, hp3⟩ := hcr
      have hnear : ∀ a ∈ ((List.range (n + 1)).map fun p => (reachN ks p 0 : Int)), a ≤ (reachN ks c 0 : Int) := by
        intro a ha
        obtain ⟨i, hi, rfl⟩ := List.mem_map.mp ha
        have := reach_le_period (ks := ks) (place := i) (by have := List.mem_range.mp hi; omega) hrr.1 hrr.2 hp1
        omega
      have hmem : (reachN ks c 0 : Int) ∈ ((List.range (n + 1)).map fun p => (reachN ks p 0 : Int)) := List.mem_map.mpr ⟨c, List.mem_range.mpr (by omega), rfl⟩
      have hnl : ∀ i, i ≤ n → ((List.range (n + 1)).map fun p => (reachN ks p 0 : Int)).getD i 0 = (reachN ks i 0 : Int) := by
        intro i hi
        rw [List.getD_eq_getElem?_getD, List.getElem?_map, List.getElem?_range (by omega)]
        rfl
      have hnll : ((List.range (n + 1)).map fun p => (reachN ks p 0 : Int)).length = n + 1 := by rw [List.length_map, List.length_range]
      generalize hNL : ((List.range (n + 1)).map fun p => (reachN ks p 0 : Int)) = NL at hnear hmem hnl hnll hJ
      have hg : NL.getD (c : Int).toNat 0 = (reachN ks c 0 : Int) := by rw [show (c : Int).toNat = c by omega]; exact hnl c (by omega)
      have hMp : ∀ M : Int, M ∈ perL ks → (∀ a : Int, a ∈ perL ks → M ≤ a) → M = (reachN ks c 0 : Int) := by
        intro M h1 h2
        have h3 := h2 _ (mem_perL.mpr ⟨_, rfl, hrr.1, hrr.2, hp1⟩)
        obtain ⟨st, rfl, h4, h5, h6⟩ := mem_perL.mp h1
        have h7 := hp2 st h4 h5 h6
        omega
      rw [hMp _ hM1 hM2] at d10'
      clear hM1 hM2 hMp hpl hpl0
      generalize hpp : reachN ks c 0 = p at hp1 hp2 hp3 hrr hnear hmem hg d10'
      obtain ⟨t10, d10'⟩ : ∃ t, o10'.data = .cell (some (.int (p : Int) t)) := ⟨_, d10'⟩
      replace N10 : News h₀ L _ [(D, LCg.lst ys), (P, LCg.lst vs), (L + 10, o10'), (L + 9, o9'), (L + 8, o8'), (L + 7, o7), (L + 6, o6), (L + 5, o5), (L + 4, o4), (L + 3, o3), (L + 2, o2), (L + 1, o1)] := fun q hq => N10 q (.tail _ hq)
      rw [lawR (16 + 1 + 1 + 1) (by decide)]
      conv in lawStmt _ => whnf
      refine holdN_cons ?_
      k_steps
      refine ⟨kso_max F10 N10 (News.isList N10 (.head _)) hJ (by omega) rfl (fun h11 M t11 tk11 F11 N11 hM1 hM2 => ?_)⟩
      obtain rfl : M = (p : Int) := by
        have h1 := hnear M hM1
        have h2 := hM2 _ hmem
        omega
      clear hM1 hM2
      k_steps
      all_goals try (exfalso; omega)
      rename Fr _ _ _ _ => F12
      rename News _ _ _ _ => N12
      refine ⟨?_⟩
      dsimp only
      rw [← hpp] at hp3 hrr d10'
      exact hD P D vs ys ks NL ob mir _ _ _ _ _ o1 o2 o3 o4 o5 o6 o7 o8' o9' o10' _ _ _ n c hn2 hn8 hkl hkr hI hob hmir hcut.symm hp3 hrr hJ hnll hnl rfl d3 d5 d6 d8' d9' d10' F12 N12
end Mine
end

section
open PySem PySem.W PyProof.Rows
set_option linter.unusedVariables false
namespace Mine
def markL (c p n : Nat) : List Int := (((List.range n).map (· + 1)).filter fun st => decide (st % p = c % p)).map fun (st : Nat) => (st : Int)
theorem mem_markL {c p n : Nat} {z : Int} : z ∈ markL c p n ↔ ∃ st : Nat, z = (st : Int) ∧ 0 < st ∧ st ≤ n ∧ st % p = c % p := by
  unfold markL
  simp only [List.mem_map, List.mem_filter, List.mem_range, decide_eq_true_eq]
  constructor
  · rintro ⟨st, ⟨⟨i, hi, rfl⟩, h⟩, rfl⟩
    exact ⟨i + 1, rfl, by omega, by omega, h⟩
  · rintro ⟨st, rfl, h0, h1, h⟩
    exact ⟨st, ⟨⟨st - 1, by omega, by omega⟩, h⟩, rfl⟩
theorem marks_go {xs : List Int} {c p n : Nat} (hp : 0 < p) : ∀ (f i last : Nat), (∀ j, i ≤ j → gVal xs j = (p : Int)) → last % p = c % p → last ≤ n → n < f + last →
    marksF xs n f i last = ((List.range' (last + 1) (n - last)).filter fun st => decide (st % p = c % p)).map fun (st : Nat) => (st : Int)
  | 0, i, last, _, _, h1, h2 => by omega
  | f + 1, i, last, hg, hm, hl, hf => by
    have hno : ∀ st, last < st → st < last + p → ¬ st % p = c % p := by
      intro st h1 h2 h3
      rw [← hm] at h3
      have h4 : (st - last) % p = 0 := Nat.sub_mod_eq_zero_of_mod_eq h3
      rw [Nat.mod_eq_of_lt (by omega)] at h4
      omega
    unfold marksF
    rw [hg i (Nat.le_refl _)]
    by_cases hn : last + p ≤ n
    · rw [if_neg (by omega)]
      have e1 : List.range' (last + 1) (n - last) = List.range' (last + 1) (p - 1) ++ (last + p) :: List.range' (last + p + 1) (n - (last + p)) := by
        rw [← List.range'_succ, show last + p = last + 1 + (p - 1) by omega, List.range'_append_1]
        congr 1
        omega
      have e2 : (List.range' (last + 1) (p - 1)).filter (fun st => decide (st % p = c % p)) = [] := by
        rw [List.filter_eq_nil_iff]
        intro st hst
        rw [List.mem_range'_1] at hst
        rw [decide_eq_true_eq]
        exact hno st (by omega) (by omega)
      have hm2 : (last + p) % p = c % p := by rw [Nat.add_mod_right, hm]
      rw [e1, List.filter_append, e2, List.nil_append, List.filter_cons_of_pos (by rw [decide_eq_true_eq]; exact hm2), List.map_cons]
      rw [show ((last : Int) + (p : Int)) = ((last + p : Nat) : Int) by omega]
      rw [marks_go hp f (i + 1) (last + p) (fun j hj => hg j (by omega)) hm2 hn (by omega)]
    · rw [if_pos (by omega)]
      have e2 : (List.range' (last + 1) (n - last)).filter (fun st => decide (st % p = c % p)) = [] := by
        rw [List.filter_eq_nil_iff]
        intro st hst
        rw [List.mem_range'_1] at hst
        rw [decide_eq_true_eq]
        exact hno st (by omega) (by omega)
      rw [e2]
      rfl
theorem range_one (n : Nat) : (List.range n).map (· + 1) = List.range' 1 n := by
  rw [List.range_eq_range', show (fun x : Nat => x + 1) = (fun x => 1 + x) from funext fun x => Nat.add_comm x 1, List.map_add_range']
theorem marks_law {c p n : Nat} (hp : 0 < p) (hc : c < p) (hn : c ≤ n) : marksF (leads c p) n (n + 1) 0 0 = markL c p n := by
  unfold markL
  rw [range_one]
  by_cases h0 : 0 < c
  · have hle : leads c p = [(c : Int), (p : Int)] := by unfold leads; rw [if_pos h0]
    rw [hle]
    have hg : ∀ j, 1 ≤ j → gVal [(c : Int), (p : Int)] j = (p : Int) := by
      intro j hj
      unfold gVal
      show [(c : Int), (p : Int)].getD (min j 1) 0 = _
      rw [show min j 1 = 1 by omega]
      rfl
    unfold marksF
    rw [show gVal [(c : Int), (p : Int)] 0 = (c : Int) from rfl, if_neg (by omega), Int.zero_add]
    rw [marks_go hp n 1 c hg rfl hn (by omega)]
    have e1 : List.range' 1 n = List.range' 1 (c - 1) ++ c :: List.range' (c + 1) (n - c) := by
      rw [← List.range'_succ]
      have := List.range'_append_1 (s := 1) (m := c - 1) (n := n - c + 1)
      rw [show 1 + (c - 1) = c by omega, show c - 1 + (n - c + 1) = n by omega] at this
      exact this.symm
    have e2 : (List.range' 1 (c - 1)).filter (fun st => decide (st % p = c % p)) = [] := by
      rw [List.filter_eq_nil_iff]
      intro st hst
      rw [List.mem_range'_1] at hst
      rw [decide_eq_true_eq, Nat.mod_eq_of_lt (show st < p by omega), Nat.mod_eq_of_lt hc]
      omega
    rw [e1, List.filter_append, e2, List.nil_append, List.filter_cons_of_pos (by rw [decide_eq_true_eq]), List.map_cons]
  · obtain rfl : c = 0 := by omega
    have hle : leads 0 p = [(p : Int)] := by unfold leads; rw [if_neg h0]
    rw [hle]
    have := marks_go (xs := [(p : Int)]) (c := 0) (n := n) hp (n + 1) 0 0 (fun j _ => by
      unfold gVal
      show [(p : Int)].getD (min j 0) 0 = _
      rw [show min j 0 = 0 by omega]
      rfl) rfl (Nat.zero_le _) (by omega)
    exact this
theorem per_many {ks : List Int} {p : Nat} (h : Per ks p) (j : Nat) : ∀ k, j + k * p < ks.length → ks[j]? = ks[j + k * p]?
  | 0, _ => by rw [Nat.zero_mul, Nat.add_zero]
  | k + 1, hk => by
    rw [Nat.succ_mul] at hk ⊢
    rw [per_many h j k (by omega), h (j + k * p) (by omega), Nat.add_assoc]
theorem critical_at {ks : List Int} {c st : Nat} (hc : c ≤ ks.length) (hp : ks.drop (reachN ks c 0) = ks.take (ks.length - reachN ks c 0)) (h0 : 0 < reachN ks c 0) (h1 : reachN ks c 0 ≤ ks.length) (hcp : c < reachN ks c 0) (hm : st % reachN ks c 0 = c % reachN ks c 0) (h2 : reachN ks c 0 ≤ st) (h3 : st + reachN ks c 0 ≤ ks.length) : reachN ks st 0 = reachN ks c 0 := by
  have hle := reach_le_period (place := st) (by omega) h0 h1 hp
  have hP := (per_iff h1).mp hp
  obtain ⟨_, _, _, h7⟩ := reach_is (ks := ks) (place := c) (by omega)
  obtain ⟨k1, k2, k3, _⟩ := reach_is (ks := ks) (place := st) (by omega)
  generalize reachN ks c 0 = p at *
  generalize reachN ks st 0 = r at *
  refine Nat.le_antisymm hle (h7 r k1 fun j j1 j2 j3 => ?_)
  by_cases hrp : r = p
  · subst hrp; exact hP j j3
  · rw [Nat.mod_eq_of_lt hcp] at hm
    have hd := Nat.div_add_mod st p
    rw [hm, Nat.mul_comm] at hd
    generalize st / p = k at hd
    have e1 := per_many hP j k (by omega)
    have e2 := per_many hP (j + r) k (by omega)
    rw [e1, e2, k3 (j + k * p) (by omega) (by omega) (by omega)]
    congr 1
    omega
end Mine
end

section
open PySem PySem.W PyProof.Rows
set_option maxRecDepth 100000
set_option maxHeartbeats 8000000
namespace Mine
example : PySem.Challenge.rw_ph0009_01 = PySem.Challenge.rw_ph0009_01 ∧ hd.heap_39 = hd.heap_39 := by
  k_fill; exact ⟨rfl, rfl⟩
local macro_rules | `(tactic| walk_at "eval ListComp") => `(tactic| refine Hold.out ?_)
local macro_rules | `(tactic| walk_at "exec Assign cons ListComp") => `(tactic| refine Hold.out ?_)
local macro_rules | `(tactic| walk_at "call ref") => `(tactic| refine Hold.out ?_)
def LawE (w : World) (h₀ : Heap) (L : Addr) (s : Shared) (Q : Flow → Shared → Prop) (E : Value → Shared → Prop) : Prop :=
  ∀ (M P Dn : Addr) (vs ysn ysm : List Value) (nm : Nat) (ks NL : List Int) (ob mir : Array UInt8) (t1 t2 t3 t4 t5 : Tok) (o1 o2 o3 o4 o5 o6 o7 o8 o9 o10 : Obj) (m : Str → Option Value) (h : Heap) (tk n c p : Nat), 2 ≤ n → n ≤ 8 → ks.length = n → (∀ k ∈ ks, 0 ≤ k ∧ k < 256) → IntsAre vs ks → KBw.bInts ob = ks → KBw.bInts mir = ks.reverse → c < p → 0 < p → p ≤ n →
    IntsAre ysn NL → NL.length = n + 1 → (∀ i, i % p = c % p → p ≤ i → i + p ≤ n → NL.getD i 0 = (p : Int)) → IntsAre ysm (markL c p n) → m (Str.ofString "mirror") = some (.bytes mir t3) → m (Str.ofString "marks") = some (.ref M) →
    o3.data = .cell (some (.int (n : Int) t1)) → o5.data = .cell (some (.ref P)) → o6.data = .cell (some (.bytes ob t2)) → o8.data = .cell (some (.int (c : Int) t4)) → o9.data = .cell (some (.ref Dn)) → o10.data = .cell (some (.int (p : Int) t5)) →
    Fr h₀ L h m → News h₀ L h [(M, listOf ysm.toArray nm), (Dn, LCg.lst ysn), (P, LCg.lst vs), (L + 10, o10), (L + 9, o9), (L + 8, o8), (L + 7, o7), (L + 6, o6), (L + 5, o5), (L + 4, o4), (L + 3, o3), (L + 2, o2), (L + 1, o1)] → wpN (model PySem.Challenge.rw_ph0009_01.row.prog w) (lawA L) (execs (lawRest 21) (lawEnv L)) Q E { s with heap := h, toks := tk }
theorem segD (w : World) (mean : ExcName → Option Value) (mg mb : Str → Option Value) (h₀ : Heap) (L : Addr) (s : Shared) (Q : Flow → Shared → Prop) (E : Value → Shared → Prop)
    (hK : (hd.heap_39 w.params).In h₀) (hT : Top hd.view_39 (looseW hd.view_39 []) mean mg mb h₀) (hE : ∀ gs : GenState, gs.bare = true → LawE w h₀ L { s with gens := s.gens.push gs } Q E) : LawD w h₀ L s Q E := by
  intro P D vs ysn ks NL ob mir t1 t2 t3 t4 t5 o1 o2 o3 o4 o5 o6 o7 o8 o9 o10 m h tk n c hn2 hn8 hkl hkr hI hob hmir hcut hcp hrr hNI hNl hNL hm d3 d5 d6 d8 d9 d10 F N
  have hLb : Below callerA h₀ [] h₀ := below_caller h₀
  have hc9 : c ≤ n := by omega
  have hcr := critical (ks := ks) (by omega) hkr
  rw [← hcut] at hcr
  have hnm : ∀ i, i % reachN ks c 0 = c % reachN ks c 0 → reachN ks c 0 ≤ i → i + reachN ks c 0 ≤ n → NL.getD i 0 = ((reachN ks c 0 : Nat) : Int) := by
    intro i h1 h2 h3
    rw [hNL i (by omega), critical_at (by omega) hcr.1 hrr.1 hrr.2 hcp h1 h2 (by omega)]
  clear hcr hcut
  have hg : NL.getD (c : Int).toNat 0 = (reachN ks c 0 : Int) := by rw [show (c : Int).toNat = c by omega]; exact hNL c hc9
  generalize reachN ks c 0 = p at *
  rw [at_name hm] at F
  rw [lawR 20 (by decide)]
  conv in lawStmt _ => whnf
  refine wpN_execs_cons (wpN_Assign_Name (wpN_CallA (P := (hd.heap_39 w.params).In) (.ref 57) (wpAny_ofH ?_) (keeps_K (by k_is))))
  k_steps
  refine ⟨rfl, ?_⟩
  k_steps
  rw [hg]
  rename Fr _ _ _ _ => F1
  rename News _ _ _ _ => N1
  refine ⟨hK.keeps F1.keep, ?_⟩
  k_dflt (refine' marks_ok w mean mg mb c p n _ _ _ _ (by omega) (by omega) (by omega) (by omega) _ _ _ _ _ _ _ _ _ _ _ _ _ _ _ _ _ hLb F1 hK N1 hT rfl ?_ ?_ ?_)
  · decide
  · show 7 + 10 * 2 < 9900; decide
  intro M ysm nm h2 tk2 gs hbare hM F2 N2 hne
  rw [marks_law (by omega) hcp hc9] at hM
  k_steps
  rename Fr _ _ _ _ => F3
  rename News _ _ _ _ => N3
  dsimp only
  exact hE gs hbare M P D vs ysn ysm nm ks NL ob mir _ _ _ _ _ o1 o2 o3 o4 o5 o6 o7 o8 o9 o10 _ _ _ n c p hn2 hn8 hkl hkr hI hob hmir hcp hrr.1 (by omega) hNI hNl hnm hM rfl rfl d3 d5 d6 d8 d9 d10 F3 N3
end Mine
end

section
open PySem PySem.W PyProof.Rows
set_option maxRecDepth 100000
set_option maxHeartbeats 8000000
namespace Mine
example : PySem.Challenge.rw_ph0009_01 = PySem.Challenge.rw_ph0009_01 ∧ hd.heap_39 = hd.heap_39 := by
  k_fill; exact ⟨rfl, rfl⟩
local macro_rules | `(tactic| walk_at "eval ListComp") => `(tactic| refine Hold.out ?_)
local macro_rules | `(tactic| walk_at "exec Assign cons ListComp") => `(tactic| refine Hold.out ?_)
local macro_rules | `(tactic| walk_at "call ref") => `(tactic| refine Hold.out ?_)
local macro_rules | `(tactic| walk_at "subscriptTail Name Slice ref ref") => `(tactic| refine Hold.out ?_)
def LawG (w : World) (h₀ : Heap) (L : Addr) (s : Shared) (Q : Flow → Shared → Prop) (E : Value → Shared → Prop) : Prop :=
  ∀ (P : Addr) (vs : List Value) (ks : List Int) (ob mir : Array UInt8) (t1 t2 t3 : Tok) (o1 o2 o3 o4 o5 o6 o7 o8 o9 o10 : Obj) (m : Str → Option Value) (h : Heap) (tk n : Nat), 2 ≤ n → n ≤ 8 → ks.length = n → (∀ k ∈ ks, 0 ≤ k ∧ k < 256) → IntsAre vs ks → KBw.bInts ob = ks → KBw.bInts mir = ks.reverse → m (Str.ofString "mirror") = some (.bytes mir t3) →
    o3.data = .cell (some (.int (n : Int) t1)) → o5.data = .cell (some (.ref P)) → o6.data = .cell (some (.bytes ob t2)) →
    Fr h₀ L h m → News h₀ L h [(P, LCg.lst vs), (L + 10, o10), (L + 9, o9), (L + 8, o8), (L + 7, o7), (L + 6, o6), (L + 5, o5), (L + 4, o4), (L + 3, o3), (L + 2, o2), (L + 1, o1)] → wpN (model PySem.Challenge.rw_ph0009_01.row.prog w) (lawA L) (execs (lawRest 23) (lawEnv L)) Q E { s with heap := h, toks := tk }
theorem segE (w : World) (mean : ExcName → Option Value) (mg mb : Str → Option Value) (h₀ : Heap) (L : Addr) (s : Shared) (Q : Flow → Shared → Prop) (E : Value → Shared → Prop)
    (hK : (hd.heap_39 w.params).In h₀) (hT : Top hd.view_39 (looseW hd.view_39 []) mean mg mb h₀) (hG : LawG w h₀ L s Q E) : LawE w h₀ L s Q E := by
  intro M P Dn vs ysn ysm nm ks NL ob mir t1 t2 t3 t4 t5 o1 o2 o3 o4 o5 o6 o7 o8 o9 o10 m h tk n c p hn2 hn8 hkl hkr hI hob hmir hcp h0p hpn hNI hNl hNp hMI hm hmM d3 d5 d6 d8 d9 d10 F N
  have hLb : Below callerA h₀ [] h₀ := below_caller h₀
  have hml : (markL c p n).length ≤ 8 := by
    unfold markL
    rw [List.length_map]
    exact Nat.le_trans (List.length_filter_le _ _) (by rw [List.length_map, List.length_range]; omega)
  have hml2 : ysm.length = (markL c p n).length := hMI.length
  rw [at_name hm, at_name hmM] at F
  dsimp only at F
  rw [lawR 21 (by decide)]
  conv in lawStmt _ => whnf
  refine holdN_cons ?_
  k_steps
  refine ⟨LCt.ListComp_T F (by with_unfolding_all rfl) (by decide) rfl (by decide) rfl (wpAny_ofH ?_)⟩
  k_steps
  rename IsRange _ _ _ _ _ _ _ _ => hr
  rename Fr _ _ _ _ => F1
  rename News _ _ _ _ => N1
  refine ⟨LCt.CompSrcT.range rfl F1 N1 hr (small_one (by omega) (by omega) (by omega) (by omega)) (rangeSize_nat _ _) (by rw [sizeLine_eq]; omega) fun g => ?_⟩
  refine rest_eachT (fun i ys => IntsAre ys ((((List.range i).map (· + 1)).filter fun st => decide (st % p = c % p)).map fun (st : Nat) => (st : Int))) .nil ?tt ?ft
  case tt =>
    intro i v I oI C oC D' m₂ ys' h tk E' hi' hJ' hv hC hx F N off ne
    obtain ⟨t, rfl⟩ := hv
    have e0 : (1 + (i : Int)) = ((i + 1 : Nat) : Int) := by omega
    rw [e0] at hx
    clear e0
    have hi2 : i + 1 ≤ n := by omega
    generalize hst : i + 1 = st at hx hi2
    have hmod : ((st : Int) % (p : Int) = (c : Int) % (p : Int)) ↔ st % p = c % p := by omega
    dsimp only
    refine wpAny_ofH ?_
    k_steps
    refine ⟨?_⟩
    have hfm : (((st : Int).fmod (p : Int) == (c : Int).fmod (p : Int)) = true) ↔ st % p = c % p := by
      rw [beq_iff_eq, Int.fmod_eq_emod_of_nonneg _ (by omega), Int.fmod_eq_emod_of_nonneg _ (by omega)]
      exact hmod
    by_cases hmat : st % p = c % p
    · rw [if_pos (hfm.mpr hmat)]
      refine wpAny_ofH ?_
      k_steps
      refine ⟨⟨_, _, _, rfl, F, N, off, trivial, rfl, ?_⟩⟩
      subst hst
      rw [List.range_succ, List.map_append, List.filter_append, List.map_append, List.map_cons, List.map_nil, List.filter_cons_of_pos (by rw [decide_eq_true_eq]; exact hmat), List.filter_nil, List.map_cons, List.map_nil]
      exact ints_snoc hJ'
    · rw [if_neg (fun h => hmat (hfm.mp h))]
      refine ⟨_, _, _, rfl, F, N, off, trivial, rfl, ?_⟩
      subst hst
      rw [List.range_succ, List.map_append, List.filter_append, List.map_append, List.map_cons, List.map_nil, List.filter_cons_of_neg (by rw [decide_eq_true_eq]; exact hmat), List.filter_nil, List.map_nil, List.append_nil]
      exact hJ'
  case ft =>
    intro ys8 hJ8 D8 h8 tk8 F9 N9 ho8
    simp only [LCg.Off1, and_true] at ho8
    have hJ9 : IntsAre ys8 (markL c p n) := by
      unfold markL
      rw [show (List.range n) = List.range ((n : Int) + 1 - 1).toNat by congr 1; omega]
      exact hJ8
    clear hJ8
    dsimp only
    k_steps
    refine ⟨?_⟩
    dsimp only
    replace N9 : News h₀ L h8 [(M, listOf ysm.toArray nm), (Dn, LCg.lst ysn), (P, LCg.lst vs), (L + 10, o10), (L + 9, o9), (L + 8, o8), (L + 7, o7), (L + 6, o6), (L + 5, o5), (L + 4, o4), (L + 3, o3), (L + 2, o2), (L + 1, o1)] := fun q hq => N9 q (.tail _ hq)
    clear N1 F1 hr hJ9 ho8
    rw [lawR (21 + 1) (by decide)]
    conv in lawStmt _ => whnf
    refine holdN_cons ?_
    k_steps
    refine ⟨LCt.ListComp_T F9 (by with_unfolding_all rfl) (by decide) rfl (by decide) rfl (wpAny_ofH ?_)⟩
    k_steps
    rename Fr _ _ _ _ => F1
    rename News _ _ _ _ => N1
    refine ⟨LCt.CompSrcT.ledger rfl F1 N1 (.head _) (by rw [sizeLine_eq, List.size_toArray]; omega) fun g => ?_⟩
    refine rest_eachT (fun i ys => ys = []) rfl ?t2 ?f2
    case t2 =>
      intro i v I oI C oC D' m₂ ys' h tk E' hi' hJ' hv hC hx F N off ne
      subst hJ'
      obtain ⟨z, t, rfl, hz⟩ := IntsAre.at hMI i v (by simpa using hv)
      obtain ⟨st, rfl, hs0, hsn, hsm⟩ := mem_markL.mp (List.mem_of_getElem? hz)
      dsimp only
      refine wpAny_ofH ?_
      k_steps
      · rename (NL.getD _ _ ≠ _) => hb
        exfalso
        apply hb
        rw [Int.toNat_natCast]
        exact hNp st hsm (by omega) (by omega)
      all_goals
        refine ⟨?_⟩
        rw [if_neg Bool.false_ne_true]
        exact ⟨_, _, _, rfl, F, N, off, .inr ⟨_, .head _, rfl, _, rfl⟩, rfl, rfl⟩
    case f2 =>
      intro ys hJ D2 h tk F N ho
      subst hJ
      simp only [LCg.Off1, and_true] at ho
      k_steps
      rename Fr _ _ _ _ => F3
      rename News _ _ _ _ => N3
      refine ⟨?_⟩
      dsimp only
      exact hG P vs ks ob mir _ _ _ o1 o2 o3 o4 o5 o6 o7 o8 o9 o10 _ _ _ n hn2 hn8 hkl hkr hI hob hmir rfl d3 d5 d6 F3 (fun q hq => N3 q (.tail _ (.tail _ (.tail _ (.tail _ hq)))))
end Mine
end

section
open PySem PySem.W PyProof.Rows
set_option maxRecDepth 100000
set_option maxHeartbeats 8000000
namespace Mine
example : PySem.Challenge.rw_ph0009_01 = PySem.Challenge.rw_ph0009_01 ∧ hd.heap_39 = hd.heap_39 := by
  k_fill; exact ⟨rfl, rfl⟩
local macro_rules | `(tactic| walk_at "call ref") => `(tactic| refine Hold.out ?_)
local macro_rules | `(tactic| walk_at "subscriptTail Name Slice ref ref") => `(tactic| refine Hold.out ?_)
theorem swap_two {as bs rs : List Int} {n : Nat} (ha : as.length = n) (hb : bs.length = n) (hs : SwapOf (as ++ bs) n rs) : rs = as.reverse ++ bs.reverse := by
  have hl : (as ++ bs).length = 2 * n := by rw [List.length_append]; omega
  refine List.ext_getElem? fun i => ?_
  by_cases hi : i < n
  · have h := hs.at_ 0 (n - 1 - i) (by omega) (by omega)
    rw [Nat.zero_mul, Nat.zero_add, Nat.zero_add, show n - 1 - (n - 1 - i) = i by omega] at h
    rw [h, List.getElem?_append_left (by omega), List.getElem?_append_left (by rw [List.length_reverse]; omega), List.getElem?_reverse (by omega), ha]
  · by_cases hi2 : i < 2 * n
    · have h := hs.at_ 1 (n - 1 - (i - n)) (by omega) (by omega)
      rw [Nat.one_mul, show n + (n - 1 - (n - 1 - (i - n))) = i by omega] at h
      rw [h, List.getElem?_append_right (by omega), List.getElem?_append_right (by rw [List.length_reverse]; omega), List.getElem?_reverse (by rw [List.length_reverse]; omega), List.length_reverse, ha, hb]
      congr 1
      omega
    · rw [List.getElem?_eq_none (by rw [hs.len]; omega), List.getElem?_eq_none (by rw [List.length_append, List.length_reverse, List.length_reverse]; omega)]
theorem segG (w : World) (mean : ExcName → Option Value) (mg mb : Str → Option Value) (h₀ : Heap) (L : Addr) (s : Shared) (Q : Flow → Shared → Prop) (E : Value → Shared → Prop)
    (hK : (hd.heap_39 w.params).In h₀) (hT : Top hd.view_39 (looseW hd.view_39 []) mean mg mb h₀) (hQ : ∀ h tk, (∀ b o, h₀.get? b = some o → h.get? b = some o) → Q (.ret (.bool true)) { s with heap := h, toks := tk }) : LawG w h₀ L s Q E := by
  intro P vs ks ob mir t1 t2 t3 o1 o2 o3 o4 o5 o6 o7 o8 o9 o10 m h tk n hn2 hn8 hkl hkr hI hob hmir hm d3 d5 d6 F N
  have hLb : Below callerA h₀ [] h₀ := below_caller h₀
  rw [at_name hm] at F
  have hvl : vs.length = ks.length := hI.length
  rw [lawR 23 (by decide)]
  conv in lawStmt _ => whnf
  refine holdN_cons ?_
  k_steps
  refine ⟨?_⟩
  k_dflt (refine' useV (unlike_ok w mean mg mb P vs vs.length ks _ (.head _) hI hkr (by omega)) hLb F hK N hT rfl ?_ ?_ ?_)
  · decide
  · show 7 + 10 * 2 < 9900; decide
  intro t4 h4 tk4 F4 N4
  k_steps
  refine ⟨?_⟩
  dsimp only
  rw [lawR (23 + 1) (by decide)]
  conv in lawStmt _ => whnf
  refine wpN_execs_cons (wpN_Return (wpN_BoolOp_And (by simp) (wpN_of (wpAny_ofH ?_))))
  k_steps
  refine ⟨krv_ints F4 N4 (News.isList N4 (.head _)) (IsPart.int _ _) hI (fun D5 ws h5 F5 N5 l5 hI5 hC5 => ?_) (by with_unfolding_all rfl) (by intro _; with_unfolding_all rfl) (by rw [List.size_toArray, sizeLine_eq]; omega)⟩
  have hk5 : ∀ k ∈ ks.reverse, 0 ≤ k ∧ k < 256 := fun k hk => hkr k (List.mem_reverse.mp hk)
  k_steps
  rename Fr _ _ _ _ => F6
  rename News _ _ _ _ => N6
  rename KBa.In _ => hin
  refine ⟨?_⟩
  have hmk : (mir.toList == (byteArr ks.reverse).toList) = true := by
    rw [bytes_eq_ints, hmir, KBa.ints_make hin, decide_eq_true_eq]
  rw [hmk]
  refine wpAny_ofH ?_
  k_steps
  refine ⟨?_⟩
  refine wpN_BoolOp_And (by simp) (wpN_Compare1 (wpN_CallA (P := (hd.heap_39 w.params).In) (.ref 35) (wpAny_ofH ?_) (keeps_K (by k_is))))
  k_steps
  refine ⟨rfl, ?_⟩
  k_steps
  rename Fr _ _ _ _ => F7
  rename News _ _ _ _ => N7
  refine ⟨hK.keeps F7.keep, ?_⟩
  rename KBw.bInts (ob ++ mir) = _ => happ
  k_dflt (refine' byteswap_ok w mean mg mb _ _ _ _ n 2 _ happ (by omega) (by rw [List.length_append, List.length_reverse]; omega) (by rw [List.length_append, List.length_reverse]; omega) (by omega) _ _ _ _ _ _ _ _ _ _ _ _ _ _ _ _ _ hLb F7 hK N7 hT rfl ?_ ?_ ?_)
  · decide
  · show 7 + 10 < 9900; decide
  intro r tr h8 tk8 hsr F8 N8
  have hr := swap_two hkl (by rw [List.length_reverse]; exact hkl) hsr
  rw [List.reverse_reverse] at hr
  refine wpN_of (wpAny_ofH ?_)
  k_steps
  rename KBw.bInts (mir ++ ob) = _ => hmo
  rename Fr _ _ _ _ => F9
  rename News _ _ _ _ => N9
  refine ⟨?_⟩
  have hmk2 : (r.toList == (mir ++ ob).toList) = true := by
    rw [bytes_eq_ints, hmo, hr, decide_eq_true_eq]
  dsimp only
  refine wpAny_ofH ?_
  k_steps
  refine ⟨?_⟩
  rw [hmk2]
  refine wpAny_ofH ?_
  k_steps
  refine ⟨?_⟩
  refine wpN_BoolOp_one (wpN_of (wpAny_ofH ?_))
  k_steps
  refine ⟨hQ _ _ F9.keep⟩
end Mine
end

section
open PySem PySem.W PyProof.Rows PySem.Calls
set_option maxRecDepth 100000
set_option maxHeartbeats 8000000
namespace Mine
theorem cons_inv {cm : Str → Option Value} {n : Str} {c : Addr} {cs : List (Str × Addr)} {cells : List (Addr × Obj)} (x : CellsAre cm ((n, c) :: cs) cells) : ∃ o r, cells = (c, o) :: r ∧ o.data = .cell (cm n) ∧ CellsAre cm cs r := by
  cases x with | cons h r => exact ⟨_, _, rfl, h, r⟩
theorem nil_inv {cm : Str → Option Value} {cells : List (Addr × Obj)} (x : CellsAre cm [] cells) : cells = [] := by
  cases x; rfl
theorem top : PySem.Challenge.rw_ph0009_01.Holds := by
  refine hd ?_
  k_fill
  intro w s₀ s₁ mg mb G Y fa o pm cd doc dV kV ho hdata hcd hD hmg hg args vals as hpre hlay hrd hwl hlo
  have KX := kIn_of Y
  have X := (Ground.X G).1
  have V := (Ground.X G).2
  refine Ground.open G ?_
  intro T B D TE TW
  try (refine guard_noD D (by decide +kernel) ?_; clear D)
  wrow_args hpre hlay hrd hwl hlo
  have he := Dflts.none hD rfl
  subst he
  have he := Dflts.noKw hD
  subst he
  have e1 : mg (Str.ofString "law") = some (.ref 74) := mg_of KX T.g (by with_unfolding_all rfl)
  have e2 : fa = 74 := by
    have e3 : (Value.ref fa) = Value.ref 74 := Option.some.inj (hmg.symm.trans e1)
    injection e3
  subst e2
  obtain ⟨ob, fd, e4, e5, e6⟩ : ∃ ob fd, (hd.heap_39 w.params).lookup 74 = some ob ∧ ob.data = .func fd ∧ fd.code = .ref 73 := ⟨_, _, by k_is, rfl, rfl⟩
  have e7 : o = ob := Option.some.inj (ho.symm.trans (KX _ _ e4))
  have e8 : cd = .ref 73 := by
    subst e7
    have e9 := hdata.symm.trans e5
    injection e9 with e10
    rw [← e6, ← e10]
    rfl
  subst e8
  rename IntsAre _ _ => hI
  rename (¬ (63 : Int) < _) => hlen
  rename s₁.heap.IsList _ _ => hLl
  refine wpN_call (call_cellsNN (by decide) ho (fd_plain hdata) (Top.nolimit T) hcd rfl (kinds_of (by kinds_ok)) (by decide) fun h₁ tk₁ cells F N0 X0 => ?_)
  obtain ⟨o1, r1, rfl, d1, X0⟩ := cons_inv X0
  obtain ⟨o2, r2, rfl, d2, X0⟩ := cons_inv X0
  obtain ⟨o3, r3, rfl, d3, X0⟩ := cons_inv X0
  obtain ⟨o4, r4, rfl, d4, X0⟩ := cons_inv X0
  obtain ⟨o5, r5, rfl, d5, X0⟩ := cons_inv X0
  obtain ⟨o6, r6, rfl, d6, X0⟩ := cons_inv X0
  obtain ⟨o7, r7, rfl, d7, X0⟩ := cons_inv X0
  obtain ⟨o8, r8, rfl, d8, X0⟩ := cons_inv X0
  obtain ⟨o9, r9, rfl, d9, X0⟩ := cons_inv X0
  obtain ⟨o10, r10, rfl, d10, X0⟩ := cons_inv X0
  obtain rfl := nil_inv X0
  clear X0
  refine segA w _ mg mb s₁.heap s₁.heap.objs.size _ _ _ { s₁ with heap := h₁, toks := tk₁ } _ o10 o9 o8 o7 o6 o5 o4 o3 o2 o1 _ _ KX T hLl hI (by omega) rfl F N0 d10 d9 d8 d7 d6 d5 d4 d3 d2 d1 ?_
  refine segB w _ mg mb s₁.heap _ _ _ _ KX T (segC w _ mg mb s₁.heap _ _ _ _ KX T (segD w _ mg mb s₁.heap _ _ _ _ KX T fun gs hgs => segE w _ mg mb s₁.heap _ _ _ _ KX T (segG w _ mg mb s₁.heap _ _ _ _ KX T fun h tk hk => ?_)))
  show GoodWG _ _ _ _ _ (.ok (.ret (.bool true))) _
  have hgen : AllBare (s₁.gens.push gs) := AllBare.push (AllBare.of_eq hg) hgs
  refine ⟨.inl ⟨.bool true, _, [], rfl, (raisesW_false (by wrow_none_raised)), (by w_reads; first | done | fail "a goal is left"), (postW_of (by wrow_shape) (by wtm_val) (by str_meet; first | done | w_fin)), unshared_nil⟩, OldK.of_keep hk, rfl, hgen⟩
end Mine
end

theorem PySem.Challenge.cw_ph0009_01_holds : PySem.Challenge.rw_ph0009_01.Holds :=
  Mine.top
