import PyProof.Rows.All
import Wide.All
import OpenK.AllK
import Wide.FinOn
import KE.KToBytes
import KE.KBits
import KE.BitLaws
import KE.IntBitsLaws
import KE.BytesMake
import PySem.Challenge.RW_vj0002_01
set_option Elab.async false
set_option maxRecDepth 100000
set_option linter.unusedSectionVars false
-- part CLogic
section
open PySem PySem.W PyProof.Rows PySem.Calls
namespace Mine
open Sem (wp)

/-- the built-ins that, while they stand on the stack, hold a bytearray -/
def heldIds : List String := ["bytearray.__contains__", "bytearray.__mod__", "bytearray.__rmod__", "_struct.pack_into.held", "bytearray.find.held"] ++ Builtin.Bytes.decodersThatHold
def cleanCode : Code → Bool
  | .builtin id _ => !heldIds.contains id
  | _ => true
def CleanL (l : List (Code × Pos)) : Prop := ∀ x ∈ l, cleanCode x.1 = true
theorem CleanL.nil : CleanL [] := fun _ h => nomatch h
theorem CleanL.cons {c : Code} {p : Pos} {l : List (Code × Pos)} (hc : cleanCode c = true) (h : CleanL l) : CleanL ((c, p) :: l) := fun x hx => by
  rcases List.mem_cons.mp hx with rfl | hx
  · exact hc
  · exact h x hx

def wpC {α : Type} (M : Model) (A : Around) (t : Sem α) (Q : α → Shared → Prop) (E : Value → Shared → Prop) (s : Shared) : Prop :=
  ∀ Γ p, Γ.In A → cleanCode Γ.code = true → CleanL Γ.below → wp M Γ t (fun a _ s' => Q a s') (fun e _ s' => E e s') p s
def codeC (M : Model) (A : Around) (c : Code) (R : Result → Shared → Prop) (s : Shared) : Prop :=
  ∀ Γ p, Γ.code = c → Γ.Below A → CleanL Γ.below → wpCode M Γ R p s

section
variable {α β : Type} {M : Model} {A : Around} {E : Value → Shared → Prop} {s : Shared}
theorem wpC_any {t : Sem α} {Q : α → Shared → Prop} (h : wpAny M A t Q E s) : wpC M A t Q E s := fun Γ p hΓ _ _ => h Γ p hΓ
theorem codeC_any {c : Code} {R : Result → Shared → Prop} (h : codeAny M A c R s) : codeC M A c R s := fun Γ p hc hΓ _ => h Γ p hc hΓ
theorem wpC_pure {a : α} {Q : α → Shared → Prop} (h : Q a s) : wpC M A (pure a) Q E s := fun _ _ _ _ _ => h
theorem wpC_throw {e : Value} {Q : α → Shared → Prop} (h : E e s) : wpC M A (throw e : Sem α) Q E s := fun _ _ _ _ _ => h
theorem wpC_mono {t : Sem α} {Q Q' : α → Shared → Prop} {E' : Value → Shared → Prop} (h : wpC M A t Q E s)
    (hQ : ∀ a s, Q a s → Q' a s) (hE : ∀ e s, E e s → E' e s) : wpC M A t Q' E' s :=
  fun Γ p hΓ hc hl => Sem.wp_mono M Γ t (fun a _ s => hQ a s) (fun e _ s => hE e s) p s (h Γ p hΓ hc hl)
theorem wpC_bind {m : Sem α} {f : α → Sem β} {Q : β → Shared → Prop} (h : wpC M A m (fun a s' => wpC M A (f a) Q E s') E s) :
    wpC M A (m >>= f) Q E s := fun Γ p hΓ hc hl => by
  rw [Sem.wp_bind']
  exact Sem.wp_mono M Γ m (fun a p' s' h' => h' Γ p' hΓ hc hl) (fun _ _ _ h' => h') p s (h Γ p hΓ hc hl)
/-- the first step by the library's rules, the rest in clean contexts -/
theorem wpC_then {m : Sem α} {f : α → Sem β} {Q : β → Shared → Prop} (h : wpAny M A m (fun a s' => wpC M A (f a) Q E s') E s) :
    wpC M A (m >>= f) Q E s := wpC_bind (wpC_any h)
theorem wpC_tryCatch {m : Sem α} {k : Value → Sem α} {Q : α → Shared → Prop} (h : wpC M A m Q (fun e s' => wpC M A (k e) Q E s') s) :
    wpC M A (tryCatch m k) Q E s := fun Γ p hΓ hc hl => by
  rw [Sem.wp_tryCatch']
  exact Sem.wp_mono M Γ m (fun _ _ _ h' => h') (fun e p' s' h' => h' Γ p' hΓ hc hl) p s (h Γ p hΓ hc hl)
theorem wpC_onRaise {m : Sem α} {k : Value → Sem Unit} {Q : α → Shared → Prop}
    (h : wpC M A m Q (fun e s' => wpC M A (k e) (fun _ s'' => E e s'') E s') s) : wpC M A (m.onRaise k) Q E s := fun Γ p hΓ hc hl => by
  rw [Sem.wp_onRaise]
  exact Sem.wp_mono M Γ m (fun _ _ _ h' => h') (fun e p' s' h' => h' Γ p' hΓ hc hl) p s (h Γ p hΓ hc hl)
theorem wpC_attempt {m : Sem α} {Q : Except Value α → Shared → Prop} (h : wpC M A m (fun a => Q (.ok a)) (fun e => Q (.error e)) s) :
    wpC M A m.attempt Q E s := fun Γ p hΓ hc hl => by rw [Sem.wp_attempt]; exact h Γ p hΓ hc hl
theorem wpC_holding {vs : List Value} {m : Sem α} {Q : α → Shared → Prop} (h : wpC M A m Q E s) : wpC M A (holding vs m) Q E s :=
  fun Γ p hΓ hc hl => by rw [Sem.wp_holding]; exact h Γ p hΓ hc hl
theorem wpC_keep {vs : List Value} {m : Sem α} {Q : α → Shared → Prop} (h : wpC M A m Q E s) : wpC M A (m.keep vs) Q E s :=
  fun Γ p hΓ hc hl => by rw [Sem.wp_keep]; exact h Γ p hΓ hc hl
theorem wpC_operate {vs : List Value} {m : Sem Value} {Q : Value → Shared → Prop} (h : wpC M A m Q E s) : wpC M A (operate vs m) Q E s :=
  fun Γ p hΓ hc hl => by rw [Sem.wp_operate]; exact h Γ p hΓ hc hl
theorem wpC_standAt {pos : Pos} {f : Unit → Sem β} {Q : β → Shared → Prop} (h : wpC M A (f ()) Q E s) : wpC M A (standAt pos >>= f) Q E s := wpC_then (wpAny_standAt h)

theorem codeC_mono {c : Code} {R R' : Result → Shared → Prop} (h : codeC M A c R s) (hR : ∀ r s, R r s → R' r s) : codeC M A c R' s :=
  fun Γ p hc hΓ hl => wpCode_mono hR (h Γ p hc hΓ hl)
theorem wpC_run {c : Code} {h : Option Value} {Q : Flow → Shared → Prop}
    (hc : codeC M (A.mark h) c (fun r s' => match r with | .ok f => Q f s' | .error e => E e s') s) (hnb : h ≠ some byPass := by intro x; cases x) :
    wpC M A (run c h) Q E s :=
  fun Γ p hΓ hcc hl => by rw [Sem.wp_run]; exact hc _ p rfl (hΓ.enter c h p hnb) (.cons hcc hl)
theorem wpC_runValue {c : Code} {Q : Value → Shared → Prop}
    (hc : codeC M A c (fun r s' => match r with | .ok (.ret v) => Q v s' | .ok _ => False | .error e => E e s') s) :
    wpC M A (runValue c) Q E s := fun Γ p hΓ hcc hl => by rw [Sem.wp_runValue]; exact hc _ p rfl (hΓ.enter c none p (by intro x; cases x)) (.cons hcc hl)
theorem wpC_call {f : Value} {pos : List Value} {kw : List (Str × Value)} {Q : Value → Shared → Prop}
    (hc : codeC M A (.call f ⟨pos, kw⟩) (fun r s' => match r with | .ok (.ret v) => Q v s' | .ok _ => False | .error e => E e s') s) :
    wpC M A (call f pos kw) Q E s := wpC_runValue hc
theorem codeC_of_tree {c : Code} {R : Result → Shared → Prop} (hcl : cleanCode c = true)
    (h : wpC M (A.under c) (M.den c) (fun fin s' => match fin with | .done f => R (.ok f) s' | .again c' => c'.quiet = true ∧ codeC M A c' R s')
      (fun e s' => R (.error e) s') s) : codeC M A c R s := fun Γ p hc hΓ hl => by
  rw [wpCode_iff_wp, hc]
  refine Sem.wp_mono M Γ _ (fun fin p' s' h' => ?_) (fun _ _ _ h' => h') p s (h Γ p (hc ▸ hΓ.in) (by rw [hc]; exact hcl) hl)
  cases fin with
  | done f => exact h'
  | again c' => exact ⟨h'.1, h'.2 (Γ.goto c') p' rfl (hΓ.goto c') hl⟩
theorem codeC_loop {c : Code} {R : Result → Shared → Prop} (hcl : cleanCode c = true) (hq : c.quiet = true) (I : Nat → Shared → Prop)
    (turn : ∀ n s, I n s → wpC M (A.under c) (M.den c)
      (fun fin s' => match fin with | .done f => R (.ok f) s' | .again c' => c' = c ∧ ∃ m, m < n ∧ I m s') (fun e s' => R (.error e) s') s)
    (n : Nat) (h : I n s) : codeC M A c R s := by
  induction n using Nat.strongRecOn generalizing s with
  | ind n ih =>
    refine codeC_of_tree hcl (wpC_mono (turn n s h) (fun fin s' hf => ?_) fun _ _ h' => h')
    cases fin with
    | done f => exact hf
    | again c' => obtain ⟨rfl, m, hm, hI⟩ := hf; exact ⟨hq, ih m hm hI⟩
end

theorem exported_arm {c : Code} {p : Pos} {self : Value} (h : cleanCode c = true) :
    (match (c, p) with
    | (.builtin "bytearray.__contains__" ⟨v :: _, _⟩, _) | (.builtin "bytearray.__mod__" ⟨v :: _, _⟩, _)
    | (.builtin "bytearray.__rmod__" ⟨_ :: v :: _, _⟩, _) | (.builtin "_struct.pack_into.held" ⟨v :: _, _⟩, _) => Builtin.Bytes.sameRef v self
    | (.builtin "bytearray.find.held" ⟨_ :: _ :: held, _⟩, _) => held.any (Builtin.Bytes.sameRef self)
    | (.builtin id ⟨v :: _, _⟩, _) => Builtin.Bytes.sameRef v self && Builtin.Bytes.decodersThatHold.contains id
    | _ => false) = false := by
  cases c with
  | builtin id args =>
    have hid : heldIds.contains id = false := by simpa [cleanCode] using h
    have h1 : ∀ x ∈ heldIds, id ≠ x := fun x hx e => by subst e; rw [List.contains_iff_mem.mpr hx] at hid; cases hid
    have d : Builtin.Bytes.decodersThatHold.contains id = false := by
      cases q : Builtin.Bytes.decodersThatHold.contains id with
      | false => rfl
      | true => exact absurd rfl (h1 id (List.mem_append_right _ (List.contains_iff_mem.mp q)))
    split
    · rename_i e; injection e with e _; injection e with e _; exact absurd e (h1 _ (by decide))
    · rename_i e; injection e with e _; injection e with e _; exact absurd e (h1 _ (by decide))
    · rename_i e; injection e with e _; injection e with e _; exact absurd e (h1 _ (by decide))
    · rename_i e; injection e with e _; injection e with e _; exact absurd e (h1 _ (by decide))
    · rename_i e; injection e with e _; injection e with e _; exact absurd e (h1 _ (by decide))
    · rename_i e; injection e with e _; injection e with e _; subst e; rw [d, Bool.and_false]
    · rfl
  | _ => rfl

theorem wpC_exported {M : Model} {A : Around} {E : Value → Shared → Prop} {s : Shared} {self : Value} {Q : Bool → Shared → Prop} (h : Q false s) : wpC M A (Builtin.Bytes.exported self) Q E s := fun Γ p _ hc hl => by
  have e : ∀ l : List (Code × Pos), CleanL l → (l.any fun
    | (.builtin "bytearray.__contains__" ⟨v :: _, _⟩, _) | (.builtin "bytearray.__mod__" ⟨v :: _, _⟩, _)
    | (.builtin "bytearray.__rmod__" ⟨_ :: v :: _, _⟩, _) | (.builtin "_struct.pack_into.held" ⟨v :: _, _⟩, _) => Builtin.Bytes.sameRef v self
    | (.builtin "bytearray.find.held" ⟨_ :: _ :: held, _⟩, _) => held.any (Builtin.Bytes.sameRef self)
    | (.builtin id ⟨v :: _, _⟩, _) => Builtin.Bytes.sameRef v self && Builtin.Bytes.decodersThatHold.contains id
    | _ => false) = false := by
    intro l hl
    induction l with
    | nil => rfl
    | cons x l ih =>
      obtain ⟨c, p⟩ := x
      rw [List.any_cons, ih fun y hy => hl y (.tail _ hy), Bool.or_false]
      exact exported_arm (hl _ (.head _))
  exact cast (congrArg (fun b => Q b s) (e _ (.cons hc hl)).symm) h
end Mine
end
example : (0 : Nat) = 0 := by w_top off; first | walk1 | rfl
-- part CHead
section
open PySem PySem.W PyProof.Rows PySem.Calls
namespace Mine
open Sem (wp)

theorem caller_clean : cleanCode (.builtin "claim.caller" {}) = true := by decide +kernel

theorem thread_ends_C {prog : Program} {w : World} {t : Sem Fin} {s : Shared} {R : Result → Shared → Prop} (hreg : s.asleep)
    (h : wpC (model prog w) callerA t (fun fin s' => ∃ f, fin = .done f ∧ (R (.ok f) s' ∧ leftWithCleanup s'.gens = false)) (fun e s' => R (.error e) s' ∧ leftWithCleanup s'.gens = false) s) :
    ∃ n r s' s'', runN (denote table) prog w n s ⟨t, .builtin "claim.caller" {}, default, []⟩ = .halted (outcomeOf r) s' ∧
      schedN (denote table) prog w n (.single s ⟨t, .builtin "claim.caller" {}, default, []⟩) = .halted (outcomeOf r) s' ∧ s'.forget = s''.forget ∧ R r s'' := by
  have h0 : wp (model prog w) ⟨.builtin "claim.caller" {}, none, none, [], none⟩ t (Sem.finPost (model prog w) ⟨.builtin "claim.caller" {}, none, none, [], none⟩ fun r s' => R r s' ∧ leftWithCleanup s'.gens = false)
      (fun e _ s' => R (.error e) s' ∧ leftWithCleanup s'.gens = false) default s := by
    refine Sem.wp_mono _ _ t (fun fin p' s' h' => ?_) (fun _ _ _ h' => h') default s (h _ default caller_in caller_clean .nil)
    obtain ⟨f, rfl, hf⟩ := h'
    exact hf
  obtain ⟨n, r, s₁, s₂, hs, hn, hfo, hR⟩ := wp_halts_full (M := model prog w) (R := R) hreg h0
  exact ⟨n, r, s₂, s₁, hn, hs, hfo, hR⟩

theorem callFrom_C {c : ClaimW} {tree : List Value → Sem Fin} {w : World} {s : Shared} {free : Addr → Prop} {gens : Prop} {kept : Heap → Prop} (hz : s.asleep) (hgens : s.gens = #[])
    (hspec : ∀ args, c.pre args = true → WData.layableAll args = true →
      ∀ ord : List DictEntry → List DictEntry, (∀ l, (ord l).Perm l) →
      ∃ vs s₁, layAllW c.records (classAt s.heap) w.params ord args s = some (vs, s₁) ∧
        wpC (model c.prog w) callerA (tree vs) (fun fin s' => ∃ f, fin = .done f ∧ (c.Ends s args vs s₁ (.ok f) s' ∧ s'.os = s.os ∧ AllBare s'.gens ∧ kept s'.heap))
          (fun e s' => c.Ends s args vs s₁ (.error e) s' ∧ s'.os = s.os ∧ AllBare s'.gens ∧ kept s'.heap) s₁) :
    c.CallFrom (fun vs => ⟨tree vs, .builtin "claim.caller" {}, default, []⟩) w free gens kept s := by
  intro args hpre hlay ord hord
  obtain ⟨vs, s₁, hlaid, hcode⟩ := hspec args hpre hlay ord hord
  have hal := layAllW_rest _ _ _ hlaid
  obtain ⟨k, r, s', s'', hrun, hsched, hfo, hcase, hos, hkp⟩ := thread_ends_C (prog := c.prog) (w := w) (t := tree vs) (s := s₁)
    (R := fun r s' => c.Ends s args vs s₁ r s' ∧ s'.os = s.os ∧ kept s'.heap)
    (Shared.asleep_of_life hal.2.2.2 hz)
    (wpC_mono hcode (by
      rintro fin s' ⟨f, e, h1, h2, h3, h4⟩
      exact ⟨f, e, ⟨h1, h2, h4⟩, leftWithCleanup_false_of_bare h3⟩) (by
      rintro e s' ⟨h1, h2, h3, h4⟩
      exact ⟨⟨h1, h2, h4⟩, leftWithCleanup_false_of_bare h3⟩))
  obtain ⟨eh, _, _, eo, _⟩ := Shared.forget_eq hfo
  have hcase := hcase.congr eh
  have hkp : kept s'.heap := by rw [eh]; exact hkp
  rw [← eo] at hos
  have hlife : s'.heap.life = s.heap.life := (runN_life _ _ _ hrun).trans hal.2.2.2
  refine ⟨vs, s₁, hlaid, k, _, s', hsched, ?_, (fun _ i x hx => by rw [hgens] at hx; simp at hx), hkp, by rw [hlife], Shared.rest_eq hos⟩
  rcases hcase with ⟨v, rfl, d1, d2, d3, d4, d5⟩ | ⟨e, ob, cls, rfl, d1, d2, d3, d4, d5⟩
  · exact .inl ⟨v, rfl, d1, d2, d3, fun b o y _ => d4 b o y, d5⟩
  · exact .inr ⟨e, ob, cls, rfl, d1, d2, d3, d4, fun b o y _ => d5 b o y⟩

/-- the walk that is asked for, in clean contexts alone -/
abbrev WalkC (q : Program) (loose : List Str) (XP : (Str → Option Value) → Heap → Prop) (YP : World → Heap → Prop) (r : RowW) (d : DefRec) (kwd : List (Str × Expr)) : Prop :=
  ∀ (w : World) (s₀ s₁ : Shared) (mg mb : Str → Option Value), Ground q loose r.records XP w s₀ mg mb s₁.heap → YP w s₁.heap → ∀ (a : Addr) (o : Obj) (pm cd doc dV kV : Value), s₁.heap.get? a = some o →
    o.data = .func { docDef d.name d.params d.body d.scope pm cd doc with defaults := dV, kwdefaults := kV } → s₁.heap.CodeRec cd d.name → Dflts mg s₁.heap d.params kwd dV kV → mg d.name = some (.ref a) → s₁.gens = #[] →
    ∀ (args : List WData) (vals : List Value) (as : List Addr), r.claim.pre args = true → WData.layableAll args = true → ReadsAllW r.records (classAt s₀.heap) s₁.heap vals args as → WellAll w.params s₁.heap vals args → (∀ a ∈ as, (a == sysModules) = false) →
      wpC (model r.prog w) callerA (PySem.call (.ref a) vals) (fun v s' => GoodWG r.claim (classAt s₀.heap) (ExcName.means s₀.heap) args s₁ (.ok (.ret v)) s')
        (fun e s' => GoodWG r.claim (classAt s₀.heap) (ExcName.means s₀.heap) args s₁ (.error e) s') s₁

theorem holds_clean {r : OpenRow} {q : Program} {loose : List Str} {Xt : Shared → Bool} {XP : (Str → Option Value) → Heap → Prop} {α : Type} {Yf : Shared → α} {Ya : World → α} {YP : World → Heap → Prop} {d : DefRec} {kwd : List (Str × Expr)} {N : Nat}
    (left : LeftO r.prog q loose Xt Yf Ya N) (hY : ∀ w s, Yf s = Ya w → YP w s.heap) (hYk : ∀ w h h', YP w h → (∀ b o, h.get? b = some o → h'.get? b = some o) → YP w h')
    (hX : ∀ s, Xt s = true → XP (s.heap.nsMap mainGlobals) s.heap) (hXk : ∀ mg h h', XP mg h → (∀ b o, h.get? b = some o → h'.get? b = some o) → XP mg h')
    (hdef : defOf q r.name = some (d, kwd)) (hp : r.prog.theDef r.name = some (d.params, d.body, d.scope)) (hk : kwWritten? d.params.kwonlyargs d.params.kw_defaults = some kwd) (hRf : ∀ s, Xt s = true → RecFacts r.records s.heap) (hwr : (!r.writes || r.records.isEmpty) = true)
    (k1 : r.wellSaid = true) (ok : (chainsOk q && opensWell r.prog && (frees r.toRowW && r.within.isEmpty)) = true) (hb : r.prog.bare) (hw : r.toRowW.promised)
    (call : WalkC q loose XP YP r.toRowW d kwd) : r.Holds := by
  refine ⟨k1, hw, ?_⟩
  obtain ⟨ok, k5⟩ := Bool.and_eq_true_iff.mp ok
  obtain ⟨hch, o1⟩ := Bool.and_eq_true_iff.mp ok
  obtain ⟨k5, k6⟩ := Bool.and_eq_true_iff.mp k5
  obtain ⟨hsame, hu, ha, hap, hm⟩ := frees_parts k5
  refine ⟨⟨hb, o1, by show r.makers.map _ = []; rw [hm]; rfl⟩, hw.witness, fun w => ⟨(left.behind hX hch w).1, fun s' hs' => ?_⟩⟩
  obtain ⟨s₀, hf, hg0, s, hT, hz, hgens, hg, G00, y⟩ := (left.behind (XP := fun mg h => XP mg h ∧ RecFacts r.records h) (fun s hs => ⟨hX s hs, hRf s hs⟩) hch w).2 s' hs'
  have G0 : Ground q loose [] XP w s (s.heap.nsMap mainGlobals) (s.heap.nsMap builtinsNs) s.heap := ⟨G00.T, G00.B, G00.D, G00.TE, G00.TD, G00.W, G00.X.1, G00.cls, G00.has, G00.apart, G00.once, G00.K⟩
  have RF := G00.X.2
  have hT' := hT
  refine ⟨s₀, hf, hg0, s, hT, fun n hn => ?_, RF.1, RF.2.1, ?_⟩
  · obtain rfl : n = r.name := by split at hn <;> simp_all
    exact pinned_of_view hg G0 hdef hp hk
  have hgens : s.gens = #[] := Array.eq_empty_of_size_eq_zero (beq_iff_eq.mp hgens)
  have G : Ground q loose r.records XP w s _ _ s.heap := RF.ground G0
  refine callFrom_C (c := r.toRowW.claim) (tree := fun vs => do match ← nsGet mainNs r.name with
      | some f => do ret (← PySem.call f vs)
      | none => unsupported "claim.caller:no-such-global") hz hgens fun args hpre hlay ord hord => ?_
  obtain ⟨⟨vs, s₁⟩, hlaid⟩ := Option.isSome_iff_exists.mp (layAllW_isSome (P := w.params) (ord := ord) G.has args r.args s (pre_splitW hpre).1)
  have keeps := layAllW_keeps _ _ _ hlaid
  have hal := layAllW_rest _ _ _ hlaid
  obtain ⟨as, hrd, hin, hold⟩ := reads_layAllW hord _ _ _ hlaid hlay s₁.heap (fun _ _ e => e)
  have L : Laid r.records w s s₁ args vs as := ⟨⟨ord, hord, hlaid⟩, hrd, hin, hold, keeps, hal.1.trans hgens, hal.2.2.1⟩
  have G₁ := G.keeps hXk keeps
  obtain ⟨a, o, pm, cd, doc, dV, kV, h1, h2, h3, h4, h5⟩ := G₁.fn hdef
  have h := call w s s₁ _ _ G₁ (hYk _ _ _ (hY w s y) keeps) a o pm cd doc dV kV h2 h3 h4 h5 (defOf_name hdef ▸ h1) L.gens args vs as hpre hlay L.reads L.well (L.low G.low)
  have hi := ident_freeW hu ha hap
  have hwi : r.toRowW.claim.within = [] := List.isEmpty_iff.mp k6
  refine ⟨vs, s₁, hlaid, wpC_then (wpAny_nsGet G₁.T.g ?_)⟩
  rw [h1]
  refine wpC_bind (wpC_mono h (fun v s' g => wpC_pure ⟨_, rfl, ?_⟩) fun e s' g => ?_)
  · have z := g.laid (c := r.toRowW.claim) hsame hwi hi L
    exact ⟨z.1, z.2.1, z.2.2, fun q => ⟨namesKept_of hT' hg r.keeps keeps g.2.1.old, noTable hwr q⟩⟩
  · have z := g.laid (c := r.toRowW.claim) hsame hwi hi L
    exact ⟨z.1, z.2.1, z.2.2, fun q => ⟨namesKept_of hT' hg r.keeps keeps g.2.1.old, noTable hwr q⟩⟩
end Mine
end
example : (0 : Nat) = 0 := by w_top off; first | walk1 | rfl
-- part Hd1
section
open PySem PySem.W PyProof.Rows
namespace Mine
set_option maxHeartbeats 8000000 in
open_top hd for PySem.Challenge.rw_vj0002_01
end Mine
end
example : (0 : Nat) = 0 := by w_top off; first | walk1 | rfl
-- part HdC
section
open PySem PySem.W PyProof.Rows PySem.Calls
namespace Mine
open Sem (wp)
set_option maxRecDepth 100000 in
set_option maxHeartbeats 8000000 in
theorem left0 : LeftO PySem.Challenge.rw_vj0002_01.prog hd.view_39 []  (fun s => xlAt hd.view_39 [] s && recOk [] s)
   (Hook.obs (kHook hd.heap_39 [2, 3, 6, 15, 17, 18, 20, 21, 22, 24, 25, 27, 28, 29, 31, 32, 34, 35, 36, 39, 40, 41, 43, 44, 46, 47, 48, 50,
          51, 53, 54, 55, 57, 58, 60, 61, 62, 64, 65, 67, 68, 69, 72, 73] (fun _ => by kernel_rfl)))
   (Hook.val (kHook hd.heap_39 [2, 3, 6, 15, 17, 18, 20, 21, 22, 24, 25, 27, 28, 29, 31, 32, 34, 35, 36, 39, 40, 41, 43, 44, 46, 47, 48, 50,
          51, 53, 54, 55, 57, 58, 60, 61, 62, 64, 65, 67, 68, 69, 72, 73] (fun _ => by kernel_rfl))) 880 := fun w => by
  kernel_rfl
end Mine
end
example : (0 : Nat) = 0 := by w_top off; first | walk1 | rfl
-- part BA
section
open PySem PySem.W PyProof.Rows PySem.Calls PySem.Spec
namespace Mine

def ByteAt (b : Array UInt8) (i : Nat) (v : Value) : Prop := ∃ c u, b[i]? = some c ∧ v = .int ((c.toNat : Nat) : Int) u
theorem bytes_len : typeLookup (.type "bytes") "__len__" = pure (some (.builtin "bytes.__len__")) := FB.slot_bytes_len.lookup

section
variable {prog : Program} {w : World} {A : Around} {E : Value → Shared → Prop} {s : Shared}
theorem extend_bytes {R : Result → Shared → Prop} (hh : A.handled = none) (x : Array UInt8) (t : Tok) (S : Addr) (res : Value) (c₀ : Nat) (hS : s.heap.get? S = some { cls := .type "list", data := .seq #[] c₀ })
    (hR : ∀ h' tk acc' c', (∀ b o, b ≠ S → s.heap.get? b = some o → h'.get? b = some o) → h'.get? S = some { cls := .type "list", dict := none, data := .seq acc' c', slots := #[] } →
      ItemsOf (ByteAt x) acc' x.size → R (.ok (.ret res)) { s with heap := h', toks := tk }) (hn : x.size ≤ sizeLine) :
    wpAny (model prog w) A.in1 (Builtin.List.listExtendWith (.ref S) (.bytes x t) res)
      (fun fin s' => match fin with | .done f => R (.ok f) s' | .again c' => c'.quiet = true ∧ codeAny (model prog w) A c' R s') (fun e s' => R (.error e) s') s := by
  have hSI : S ≠ s.heap.objs.size := Nat.ne_of_lt (Heap.lt_size hS)
  have hSf : S ∉ [s.heap.objs.size] := fun hm => hSI (List.mem_singleton.mp hm)
  unfold Builtin.List.listExtendWith
  refine wpAny_bind (wpAny_typeOf (T := "bytes") (v := .bytes x t) rfl ?_)
  have h1 : Builtin.List.listSameRef (.ref S) (.bytes x t) = false := rfl
  have h2 : (Value.type "bytes" == Value.type "list") = false := by decide
  have h3 : (Value.type "bytes" == Value.type "tuple") = false := by decide
  simp only [h1, h2, h3, Bool.or_false, Bool.false_eq_true, if_false]
  refine wpAny_bind (KBw.pyIter_bytes ?_)
  refine wpAny_bind (wpAny_holding ?_)
  unfold Builtin.List.listLengthHint
  refine wpAny_bind (wpAny_specialOf (T := "bytes") (v := .bytes x t) rfl bytes_len ?_)
  wp_delta
  refine wpAny_bind (wpAny_isInstance (T := "bytes") (v := .bytes x t) (b := true) rfl (by rw [isSubtype_type]; kernel_rfl) ?_)
  show wpAny _ _ (typeOf (Value.bytes x t) >>= _) _ _ _
  refine wpAny_bind (wpAny_typeOf (T := "bytes") (v := .bytes x t) rfl ?_)
  refine wpAny_pure ?_
  rw [if_neg (by decide)]
  have W := KBw.walks (prog := prog) (w := w) (A := A.in1) hh s.heap.objs.size x t
  refine wpAny_pure ⟨plainId_quiet F.plain_extend_loop _, codeAny_extend_loopS W.toS hn _ hSf _ x.size 0 _ _ _ rfl (Nat.zero_le _) ⟨_, Heap.get?_push_size _ rfl, rfl, rfl⟩ (Heap.get?_push_of_some _ hS) (ItemsOf.nil _) fun s' acc' c' hm hS' hacc => ?_⟩
  rw [Moved.eq_with hm]
  refine hR s'.heap s'.toks acc' c' (fun b ob hb e => hm.heap b ob (fun hmem => ?_) (Heap.get?_push_of_some _ e)) hS' hacc
  rcases List.mem_cons.mp hmem with e' | hmem
  · exact hb e'
  · exact absurd (Heap.lt_size e) (by rw [List.mem_singleton.mp hmem]; exact Nat.lt_irrefl _)

theorem list_init_bytes {R : Result → Shared → Prop} (hh : A.handled = none) (x : Array UInt8) (t : Tok) (S : Addr) (hS : s.heap.get? S = some { cls := .type "list", data := .seq #[] })
    (hR : ∀ h' tk acc' c', (∀ b o, b ≠ S → s.heap.get? b = some o → h'.get? b = some o) → h'.get? S = some { cls := .type "list", dict := none, data := .seq acc' c', slots := #[] } →
      ItemsOf (ByteAt x) acc' x.size → R (.ok (.ret .none)) { s with heap := h', toks := tk }) (hn : x.size ≤ sizeLine) :
    wpAny (model prog w) A.in1 (Builtin.«list.__init__» ⟨[.ref S, .bytes x t], []⟩)
      (fun fin s' => match fin with | .done f => R (.ok f) s' | .again c' => c'.quiet = true ∧ codeAny (model prog w) A c' R s') (fun e s' => R (.error e) s') s := by
  show wpAny _ _ (do let old ← Builtin.List.listItems (.ref S); Builtin.List.listUpdate (.ref S) (fun _ => #[]); letGo old.toList.reverse; Builtin.List.listExtendWith (.ref S) (.bytes x t) .none) _ _ s
  refine wpAny_bind ?_
  unfold Builtin.List.listItems
  refine wpAny_bind (wpAny_seqItems hS rfl (wpAny_pure ?_))
  show wpAny _ _ (updateSeq S (fun _ => #[]) >>= fun _ => letGo (#[] : Array Value).toList.reverse >>= fun _ => Builtin.List.listExtendWith (.ref S) (.bytes x t) .none) _ _ s
  refine wpAny_bind (wpAny_updateSeq hS rfl ?_)
  have hS₂ := Heap.get?_update_self (Obj.mapSeq (fun _ => (#[] : Array Value))) hS rfl
  have oth : ∀ b o, b ≠ S → s.heap.get? b = some o → (s.heap.update S (Obj.mapSeq (fun _ => (#[] : Array Value)))).get? b = some o :=
    fun b o hb e => (Heap.get?_update_other _ _ (Ne.symm hb)).trans e
  refine wpAny_bind (wpAny_letGo ?_)
  refine extend_bytes (hn := hn) hh x t S .none _ hS₂ fun h' tk acc' c' hk hS' hacc => ?_
  exact hR h' tk acc' c' (fun b o hb e => hk b o hb (oth b o hb e)) hS' hacc

theorem call_list_bytes {Q : Value → Shared → Prop} (hh : A.handled = none) (x : Array UInt8) (t : Tok)
    (hQ : ∀ h' tk acc' c', (∀ b o, s.heap.get? b = some o → h'.get? b = some o) →
      h'.get? s.heap.objs.size = some { cls := .type "list", dict := none, data := .seq acc' c', slots := #[] } → ItemsOf (ByteAt x) acc' x.size → Q (.ref s.heap.objs.size) { s with heap := h', toks := tk }) (hn : x.size ≤ sizeLine) :
    wpAny (model prog w) A (call (.type "list") [.bytes x t]) Q E s := by
  refine callType_codes (Q₁ := fun obj s₁ => obj = .ref s.heap.objs.size ∧ s₁ = { s with heap := s.heap.push { cls := .type "list", data := .seq #[] } }) F.called_list (F.typeCall_list_1 _) F.entry_list_init
    (code_list_new _ ⟨rfl, rfl⟩) fun obj s₁ h₁ => ?_
  obtain ⟨rfl, rfl⟩ := h₁
  have hS : (s.heap.push { cls := .type "list", data := .seq #[] }).get? s.heap.objs.size = some { cls := .type "list", data := .seq #[] } := Heap.get?_push_size _ rfl
  refine ⟨⟨_, hS, rfl⟩, F.args_list_init_2 _ _, list_init_bytes (A := A.in1) (hn := hn) hh x t _ hS fun h' tk acc' c' hk hS' hacc => ?_⟩
  exact ⟨rfl, hQ h' tk acc' c' (fun b o e => hk b o (Nat.ne_of_lt (Heap.lt_size e)) (Heap.get?_push_of_some _ e)) hS' hacc⟩

theorem ints_of_bytes : ∀ (l : List Value) (ks : List Int), l.length = ks.length → (∀ (j : Nat) v, l[j]? = some v → ∃ k u, ks[j]? = some k ∧ v = .int k u) → IntsAre l ks
  | [], [], _, _ => .nil
  | [], _ :: _, h, _ => by simp at h
  | _ :: _, [], h, _ => by simp at h
  | v :: l, k :: ks, h, g => by
    obtain ⟨k', u, e, rfl⟩ := g 0 v rfl
    obtain rfl : k = k' := by simpa using e
    exact .cons _ _ (ints_of_bytes l ks (by simpa using h) fun j v hv => g (j + 1) v (by simpa using hv))

theorem list_bytes_K {h₀ : Heap} {L : Addr} {m : Str → Option Value} {news : List (Addr × Obj)} {b : Array UInt8} {t : Tok} {ks : List Int} {Q : Value → Shared → Prop} (F : Fr h₀ L s.heap m) (N : News h₀ L s.heap news) (hh : A.handled = none)
    (hb : KBw.bInts b = ks) (hn : ks.length ≤ 16777216)
    (h : ∀ r vs k h' tk', IntsAre vs ks → Fr h₀ L h' m → News h₀ L h' ((r, W.listOf vs.toArray k) :: news) → (∀ p ∈ news, p.1 < r) → Q (.ref r) { s with heap := h', toks := tk' }) :
    wpAny (model prog w) A (call (.type "list") [.bytes b t]) Q E s := by
  have hsz : b.size = ks.length := by rw [← hb, KBw.ints_length]
  refine call_list_bytes hh b t (fun h' tk acc' c' hk hS' hacc => ?_) (by rw [sizeLine_eq, hsz]; exact hn)
  have N' : News h₀ L h' news := fun p hp => ⟨hk _ _ (N p hp).1, (N p hp).2⟩
  refine h s.heap.objs.size acc'.toList c' h' tk (ints_of_bytes _ _ (by simp [hacc.1, hsz]) fun j v hv => ?_) (F.keeps hk) (fun p hp => ?_) fun p hp => Heap.lt_size (N p hp).1
  · obtain ⟨c, u, hc, rfl⟩ := hacc.2 j v (by simpa using hv)
    exact ⟨_, u, by rw [← hb]; exact KBw.ints_get hc, rfl⟩
  · rcases List.mem_cons.mp hp with rfl | hp
    · refine ⟨by simpa [W.listOf] using hS', Nat.ne_of_gt F.ns.lt, ?_⟩
      cases e : h₀.get? s.heap.objs.size with
      | none => rfl
      | some o => exact absurd (Heap.lt_size (F.keep _ _ e)) (Nat.lt_irrefl _)
    · exact N' p hp

theorem bytes_item_out {value slice : Expr} {b : Array UInt8} {t ui : Tok} {k : Int} {Q : Value → Shared → Prop} (hA : A.handled = none) (hout : (b.size : Int) ≤ k) (hhi : k < 2 ^ 63)
    (hE : ∀ h' tk e, Heap.NewExc s.heap h' e "IndexError" → E (.ref e) { s with heap := h', toks := tk })
    (hs : subscripted slice false (.bytes b t) (.int k ui) = operate [.bytes b t, .int k ui] (getItem (.bytes b t) (.int k ui)) := by with_unfolding_all rfl)
    (ht : ∀ r, letTemporaryGo value (.bytes b t) r = pure () := by intro _; with_unfolding_all rfl) :
    wpAny (model prog w) A (subscriptTail value slice (.bytes b t) (.int k ui)) Q E s := by
  have hf : Builtin.Bytes.fitsIndex k = true := by
    unfold Builtin.Bytes.fitsIndex
    simp only [Bool.and_eq_true, decide_eq_true_eq]
    omega
  have hi : (seqIndex? k b.size).bind (b[·]?) = none := by
    have e : seqIndex? k b.size = none ∨ ∃ j, seqIndex? k b.size = some j ∧ b.size ≤ j := by
      unfold seqIndex?
      dsimp only
      split
      · omega
      · split
        · rename_i h1 h2
          simp only [Bool.and_eq_true, decide_eq_true_eq] at h2
          omega
        · exact .inl rfl
    rcases e with e | ⟨j, e, hj⟩
    · rw [e]; rfl
    · rw [e]; show b[j]? = none; exact Array.getElem?_eq_none hj
  refine tail_of_ItemOn ⟨"bytes", _, FB.slot_bytes_getitem.lookup, typeIs_bytes _ _ _, ?_⟩ hs ht
  refine wpAny_getItem_slot (typeIs_bytes _ _ _) (by decide) FB.slot_bytes_getitem (wpAny_call_entry FB.slot_bytes_getitem (typeIs_bytes _ _ _) FB.entry_bytes_getitem ?_ (FB.args_bytes_getitem_2 _ _))
  show wpAny _ _ (Builtin.Bytes.subscript? (.int k ui) >>= fun r => _) _ _ s
  refine wpAny_bind ?_
  unfold Builtin.Bytes.subscript?
  refine wpAny_bind (wpAny_specialOf (typeIs_int s k ui) F.slot_int_index.lookup ?_)
  show wpAny _ _ (if (!Builtin.Bytes.fitsIndex k) = true then _ else pure (some k)) _ _ s
  rw [hf]
  refine wpAny_pure ?_
  show wpAny _ _ (match (seqIndex? k b.size).bind (b[·]?) with | some x => retInt x.toNat | none => _) _ _ s
  rw [hi]
  first
    | exact wpAny_bind (wpAny_rule (by exact_raiseError plainExc_IndexError hA hE))
    | exact wpAny_bind (wpAny_rule (wpAny_bind (by exact_raiseError plainExc_IndexError hA hE)))
    | exact wpAny_bind (wpAny_bind (wpAny_rule (by exact_raiseError plainExc_IndexError hA hE)))
    | exact wpAny_rule (by exact_raiseError plainExc_IndexError hA hE)
end
end Mine
end
example : (0 : Nat) = 0 := by w_top off; first | walk1 | rfl
-- part Spec1
section
open PySem PySem.W
namespace Mine
/-- the plain law: how many octets follow the first -/
def more (n : Int) : Nat :=
  if n < 128 then 0 else if n < 16384 then 1 else if n < 2097152 then 2 else if n < 268435456 then 3 else if n < 34359738368 then 4
  else if n < 4398046511104 then 5 else if n < 562949953421312 then 6 else if n < 72057594037927936 then 7 else 8
def be (k : Nat) (x : Int) : List Int := (KTBy.little k x).reverse
def laid (n : Int) : List Int := (256 - 2 ^ (8 - more n) + n / 256 ^ more n) :: be (more n) n
theorem more_le (n : Int) : more n ≤ 8 := by
  unfold more
  repeat' split
  all_goals omega
theorem p2 (k : Nat) : ((2 : Int) ^ k) = ((2 ^ k : Nat) : Int) := by rw [Int.natCast_pow]; rfl
theorem p2_pos (k : Nat) : (0 : Int) ≤ 2 ^ k := by rw [p2]; exact Int.natCast_nonneg _
theorem fdiv2 (n : Int) (j : Nat) : n.fdiv (2 ^ j) = n / 2 ^ j := Int.fdiv_eq_ediv_of_nonneg _ (p2_pos j)
/-- the loop's word is more's -/
theorem more_is {n k : Int} (h0 : 0 ≤ n) (hk0 : 0 ≤ k) (hk8 : k ≤ 8) (hlo : ∀ j : Int, 0 ≤ j → j < k → n.fdiv (2 ^ (7 * j + 7).toNat) ≠ 0)
    (hhi : k < 8 → n.fdiv (2 ^ (7 * k + 7).toNat) = 0) : (more n : Int) = k := by
  have c : k = 0 ∨ k = 1 ∨ k = 2 ∨ k = 3 ∨ k = 4 ∨ k = 5 ∨ k = 6 ∨ k = 7 ∨ k = 8 := by omega
  have lo : ∀ j : Nat, (j : Int) + 1 = k → n / 2 ^ (7 * j + 7) ≠ 0 := fun j hj => by
    have := hlo j (by omega) (by omega)
    rw [fdiv2] at this
    have e : (7 * (j : Int) + 7).toNat = 7 * j + 7 := by omega
    rwa [e] at this
  have hi : ∀ j : Nat, (j : Int) = k → j < 8 → n / 2 ^ (7 * j + 7) = 0 := fun j hj h8 => by
    have := hhi (by omega)
    rw [fdiv2, ← hj] at this
    have e : (7 * (j : Int) + 7).toNat = 7 * j + 7 := by omega
    rwa [e] at this
  unfold more
  clear hlo hhi
  rcases c with rfl | rfl | rfl | rfl | rfl | rfl | rfl | rfl | rfl
  · have h := hi 0 rfl (by omega)
    simp only [Nat.reduceMul, Nat.reduceAdd, Int.reducePow] at h
    repeat' split
    all_goals omega
  · have h := hi 1 rfl (by omega)
    have g := lo 0 rfl
    simp only [Nat.reduceMul, Nat.reduceAdd, Int.reducePow] at h g
    repeat' split
    all_goals omega
  · have h := hi 2 rfl (by omega)
    have g := lo 1 rfl
    simp only [Nat.reduceMul, Nat.reduceAdd, Int.reducePow] at h g
    repeat' split
    all_goals omega
  · have h := hi 3 rfl (by omega)
    have g := lo 2 rfl
    simp only [Nat.reduceMul, Nat.reduceAdd, Int.reducePow] at h g
    repeat' split
    all_goals omega
  · have h := hi 4 rfl (by omega)
    have g := lo 3 rfl
    simp only [Nat.reduceMul, Nat.reduceAdd, Int.reducePow] at h g
    repeat' split
    all_goals omega
  · have h := hi 5 rfl (by omega)
    have g := lo 4 rfl
    simp only [Nat.reduceMul, Nat.reduceAdd, Int.reducePow] at h g
    repeat' split
    all_goals omega
  · have h := hi 6 rfl (by omega)
    have g := lo 5 rfl
    simp only [Nat.reduceMul, Nat.reduceAdd, Int.reducePow] at h g
    repeat' split
    all_goals omega
  · have h := hi 7 rfl (by omega)
    have g := lo 6 rfl
    simp only [Nat.reduceMul, Nat.reduceAdd, Int.reducePow] at h g
    repeat' split
    all_goals omega
  · have g := lo 7 rfl
    simp only [Nat.reduceMul, Nat.reduceAdd, Int.reducePow] at g
    repeat' split
    all_goals omega
theorem more_lt {n : Int} (_h0 : 0 ≤ n) (h : more n < 8) : n < 2 ^ (7 * more n + 7) := by
  unfold more at h ⊢
  repeat' split
  all_goals (simp only [Nat.reduceMul, Nat.reduceAdd, Int.reducePow])
  all_goals (first | omega | (exfalso; revert h; (repeat' split) <;> omega))
/-- what the law's own numbers say -/
theorem laid_last {n : Int} (h0 : 0 ≤ n) (h1 : n < 18446744073709551616) (hm : more n = 8) : laid n = 255 :: be 8 n := by
  unfold laid
  rw [hm]
  simp only [Nat.reduceSub, Int.reducePow]
  congr 1
  omega
/-- the law's sum is below 256 to the octets' number -/
theorem laid_sum {n : Int} (h0 : 0 ≤ n) (hm : more n < 8) : 0 ≤ (2 ^ more n - 1) * 2 ^ (7 * more n + 8) + n ∧ (2 ^ more n - 1) * 2 ^ (7 * more n + 8) + n < 256 ^ (more n + 1)
    ∧ be (more n + 1) ((2 ^ more n - 1) * 2 ^ (7 * more n + 8) + n) = laid n := by
  have hl := more_lt h0 hm
  unfold laid
  generalize more n = k at hm hl ⊢
  have c : k = 0 ∨ k = 1 ∨ k = 2 ∨ k = 3 ∨ k = 4 ∨ k = 5 ∨ k = 6 ∨ k = 7 := by omega
  rcases c with rfl | rfl | rfl | rfl | rfl | rfl | rfl | rfl <;>
  (simp only [Nat.reduceMul, Nat.reduceAdd, Nat.reduceSub, Int.reducePow, Int.reduceSub, Int.reduceMul] at hl ⊢
   refine ⟨by omega, by omega, ?_⟩
   simp only [be, KTBy.little, List.reverse_cons, List.reverse_nil, List.nil_append, List.cons_append, List.cons.injEq, and_true, true_and]
   first | omega | (refine ⟨?_, ?_⟩ <;> omega) | (repeat' (first | omega | refine ⟨?_, ?_⟩)))
theorem more_of_loop {n k : Int} {f : Int → Bool} (h0 : 0 ≤ n) (_hM : PyProof.Rows.MarkC f 0 k) (hk0 : 0 ≤ k) (hk8 : k ≤ max 0 8)
    (hlo : ∀ j : Int, 0 ≤ j → j < k → (if j < 8 then if (n.fdiv (2 ^ (7 * j + 7).toNat) != 0) = true then true else false else false) = true)
    (hhi : (if k < 8 then if (n.fdiv (2 ^ (7 * k + 7).toNat) != 0) = true then true else false else false) = false) : (more n : Int) = k := by
  refine more_is h0 hk0 (by omega) (fun j a b => ?_) fun h => ?_
  · have := hlo j a b
    intro e
    rw [e] at this
    simp at this
  · rw [if_pos h] at hhi
    by_cases e : n.fdiv (2 ^ (7 * k + 7).toNat) = 0
    · exact e
    · rw [if_pos (by simpa using e)] at hhi
      cases hhi
end Mine
end
example : (0 : Nat) = 0 := by w_top off; first | walk1 | rfl
-- part Spec2
section
open PySem PySem.W PyProof.Rows PyProof
namespace Mine
open Builtin.Int (intBits)
/-- leading ones of an octet -/
def lead (b : Int) : Nat :=
  if b < 128 then 0 else if b < 192 then 1 else if b < 224 then 2 else if b < 240 then 3 else if b < 248 then 4 else if b < 252 then 5 else if b < 254 then 6 else if b < 255 then 7 else 8
theorem lead_le (b : Int) : lead b ≤ 8 := by
  unfold lead
  repeat' split
  all_goals omega
/-- a number's octets behind its first one, read -/
def num (b : Int) (xs : List Int) : Int := xs.foldl (fun a x => a * 256 + x) (b % 2 ^ (8 - lead b))
/-- the zigzag's way back -/
def dec (v : Int) : Int := if v % 2 = 0 then v / 2 else -(v + 1) / 2
def readL : List Int → Option (List Int)
  | [] => some []
  | b :: r => if r.length < lead b then none else (readL (r.drop (lead b))).map (dec (num b (r.take (lead b))) :: ·)
termination_by l => l.length
decreasing_by simp only [List.length_drop, List.length_cons]; omega

def InB (ns : List Int) : Prop := ∀ n ∈ ns, 0 ≤ n ∧ n < 256

theorem and128 {b : Int} (h0 : 0 ≤ b) (h1 : b < 256) : Builtin.bitAnd b 128 = if b < 128 then 0 else 128 := by
  have := kbt_bit b 7
  simp only [Int.reducePow] at this
  rw [this]
  split <;> omega
theorem byte_of {P : Int → Prop} (h : ∀ n : Fin 256, P ((n.val : Nat) : Int)) {b : Int} (h0 : 0 ≤ b) (h1 : b < 256) : P b := by
  obtain ⟨n, rfl⟩ := Int.eq_ofNat_of_zero_le h0
  exact h ⟨n, by omega⟩
theorem not255 {b : Int} (h0 : 0 ≤ b) (h1 : b < 256) : Builtin.bitAnd (-b - 1) 255 = 255 - b := by
  rw [bitAnd_m8]
  omega
theorem lead_bits {b : Int} (h0 : 0 ≤ b) (h1 : b < 256) : (8 : Int) - ((intBits (255 - b) : Nat) : Int) = (lead b : Int) :=
  byte_of (P := fun b => (8 : Int) - ((intBits (255 - b) : Nat) : Int) = (lead b : Int)) (by decide +kernel) h0 h1
theorem low_bits {b : Int} (h0 : 0 ≤ b) (h1 : b < 256) : Builtin.bitAnd b ((255 : Int).fdiv (2 ^ (lead b : Int).toNat)) = b % 2 ^ (8 - lead b) :=
  byte_of (P := fun b => Builtin.bitAnd b ((255 : Int).fdiv (2 ^ (lead b : Int).toNat)) = b % 2 ^ (8 - lead b)) (by decide +kernel) h0 h1
theorem low_range {b : Int} (h0 : 0 ≤ b) (h1 : b < 256) : 0 ≤ b % 2 ^ (8 - lead b) ∧ b % 2 ^ (8 - lead b) < 256 :=
  byte_of (P := fun b => 0 ≤ b % 2 ^ (8 - lead b) ∧ b % 2 ^ (8 - lead b) < 256) (by decide +kernel) h0 h1
theorem lead_zero {b : Int} : lead b = 0 ↔ b < 128 := by
  unfold lead
  constructor
  · intro h
    revert h
    repeat' split
    all_goals omega
  · intro h
    rw [if_pos h]
theorem and_zero (x : Int) : Builtin.bitAnd x 0 = 0 := by
  have h := bitAnd_range x (y := 0) (by omega)
  omega
theorem and_low : ∀ (k : Nat) (v x : Int), 0 ≤ x → x < 2 ^ k → Builtin.bitAnd (v * 2 ^ k) x = 0
  | 0, v, x, h0, h1 => by
    have : x = 0 := by simp only [Int.pow_zero] at h1; omega
    rw [this, and_zero]
  | k + 1, v, x, h0, h1 => by
    have e : v * 2 ^ (k + 1) = 2 * (v * 2 ^ k) := by rw [Int.pow_succ, Int.mul_comm (2 ^ k) 2, ← Int.mul_assoc, Int.mul_comm v 2, Int.mul_assoc]
    have h2 : x / 2 < 2 ^ k := by rw [Int.pow_succ] at h1; omega
    rw [kbt_halves, e]
    have e1 : 2 * (v * 2 ^ k) / 2 = v * 2 ^ k := by omega
    rw [e1, and_low k v (x / 2) (by omega) h2, if_neg (by omega)]
    omega
theorem or_sum (x y : Int) : Builtin.bitOr x y = x + y - Builtin.bitAnd x y := by
  have h := bitXor_and x y
  have d : Builtin.bitXor x y = Builtin.bitOr x y - Builtin.bitAnd x y := rfl
  omega
theorem or_byte {v x : Int} (h0 : 0 ≤ x) (h1 : x < 256) : Builtin.bitOr (v * 2 ^ 8) x = v * 256 + x := by
  rw [or_sum, and_low 8 v x h0 (by simpa using h1)]
  simp only [Int.reducePow]
  omega
theorem and255 {x : Int} (h0 : 0 ≤ x) (h1 : x < 256) : Builtin.bitAnd x 255 = x := by
  rw [bitAnd_m8]
  omega
theorem and_m1 (x : Int) : Builtin.bitAnd x (-1) = x := by
  have e0 : Builtin.bitNot (-1) = 0 := by decide
  have e1 : decide ((0 : Int) ≤ -1) = false := by decide
  unfold Builtin.bitAnd
  rw [e0, e1]
  cases h3 : decide (0 ≤ x)
  · show Builtin.bitNot (((Builtin.bitNot x).toNat ||| 0 : Nat) : Int) = x
    rw [Nat.or_zero]
    have := of_decide_eq_false h3
    unfold Builtin.bitNot
    omega
  · show x - ((x.toNat &&& 0 : Nat) : Int) = x
    rw [Nat.and_zero]
    omega
theorem dec_is (v : Int) : Builtin.bitXor (v.fdiv 2) (-(Builtin.bitAnd v 1)) = dec v := by
  have e1 : v.fdiv 2 = v / 2 := Int.fdiv_eq_ediv_of_nonneg _ (by omega)
  rw [e1, bitAnd_m1]
  unfold dec
  split
  · rename_i h
    rw [h, bitXor_and]
    show v / 2 + 0 - 2 * Builtin.bitAnd (v / 2) 0 = _
    rw [and_zero]
    omega
  · have h : v % 2 = 1 := by omega
    rw [h, bitXor_and]
    have ea := and_m1 (v / 2)
    show v / 2 + -1 - 2 * Builtin.bitAnd (v / 2) (-1) = _
    rw [ea]
    omega
theorem num_nil (b : Int) : num b [] = b % 2 ^ (8 - lead b) := rfl
theorem num_snoc (b : Int) (xs : List Int) (x : Int) : num b (xs ++ [x]) = num b xs * 256 + x := by
  unfold num
  rw [List.foldl_append]
  rfl
theorem num_range {b : Int} (h0 : 0 ≤ b) (h1 : b < 256) : ∀ {xs : List Int}, InB xs → 0 ≤ num b xs ∧ num b xs < 256 ^ (xs.length + 1) := by
  intro xs
  have key : ∀ (xs : List Int) (a : Int) (k : Nat), 0 ≤ a → a < 256 ^ k → InB xs → 0 ≤ xs.foldl (fun a x => a * 256 + x) a ∧ xs.foldl (fun a x => a * 256 + x) a < 256 ^ (xs.length + k) := by
    intro xs
    induction xs with
    | nil => intro a k g0 g1 _; exact ⟨g0, by simpa using g1⟩
    | cons x r ih =>
      intro a k g0 g1 hB
      have hx := hB x (.head _)
      have := ih (a * 256 + x) (k + 1) (by omega) (by rw [Int.pow_succ]; omega) fun y hy => hB y (.tail _ hy)
      rw [List.foldl_cons, List.length_cons]
      have e : r.length + (k + 1) = r.length + 1 + k := by omega
      rw [← e]
      exact this
  intro hB
  exact key xs _ 1 (low_range h0 h1).1 (by simpa using (low_range h0 h1).2) hB
theorem lead_is {b : Int} (h0 : 0 ≤ b) (h1 : b < 256) : (8 : Int) - ((intBits (Builtin.bitAnd (Builtin.bitNot b) 255) : Nat) : Int) = (lead b : Int) := by
  have e : Builtin.bitAnd (Builtin.bitNot b) 255 = 255 - b := not255 h0 h1
  rw [e, lead_bits h0 h1]
theorem first_is {b : Int} (h0 : 0 ≤ b) (h1 : b < 256) : Builtin.bitAnd b ((255 : Int).fdiv (2 ^ ((8 : Int) - ((intBits (Builtin.bitAnd (Builtin.bitNot b) 255) : Nat) : Int)).toNat)) = num b [] := by
  rw [lead_is h0 h1, low_bits h0 h1, num_nil]
theorem small_first {b : Int} (h0 : 0 ≤ b) (h1 : b < 256) (h : Builtin.bitAnd b 128 = 0) : lead b = 0 ∧ num b [] = b := by
  rw [and128 h0 h1] at h
  have hb : b < 128 := by
    split at h <;> omega
  have := lead_zero.mpr hb
  refine ⟨this, ?_⟩
  rw [num_nil, this]
  simp only [Nat.sub_zero, Int.reducePow]
  omega
theorem drop_at {bs : List Int} {n : Nat} (hn : n < bs.length) : bs.drop n = bs.getD n 0 :: bs.drop (n + 1) := by
  rw [List.drop_eq_getElem_cons hn]
  congr 1
  simp [List.getD, hn]
theorem read_next {bs vals : List Int} {n : Nat} (hn : n < bs.length) (hk : n + lead (bs.getD n 0) < bs.length) (p : readL bs = (readL (bs.drop n)).map (vals ++ ·)) :
    readL bs = (readL (bs.drop (n + lead (bs.getD n 0) + 1))).map ((vals ++ [dec (num (bs.getD n 0) ((bs.drop (n + 1)).take (lead (bs.getD n 0))))]) ++ ·) := by
  rw [p, drop_at hn, readL]
  have hl : ¬ (bs.drop (n + 1)).length < lead (bs.getD n 0) := by
    rw [List.length_drop]
    omega
  rw [if_neg hl, List.drop_drop]
  have e : n + 1 + lead (bs.getD n 0) = n + lead (bs.getD n 0) + 1 := by omega
  rw [e]
  simp [Option.map_map, Function.comp_def]
theorem read_none {bs vals : List Int} {n : Nat} (hn : n < bs.length) (hk : bs.length ≤ n + lead (bs.getD n 0)) (p : readL bs = (readL (bs.drop n)).map (vals ++ ·)) : readL bs = none := by
  rw [p, drop_at hn, readL]
  have hl : (bs.drop (n + 1)).length < lead (bs.getD n 0) := by
    rw [List.length_drop]
    omega
  rw [if_pos hl]
  rfl
theorem inB_drop {bs : List Int} (h : InB bs) (n : Nat) : InB (bs.drop n) := fun x hx => h x (List.mem_of_mem_drop hx)
theorem inB_take {bs : List Int} (h : InB bs) (n : Nat) : InB (bs.take n) := fun x hx => h x (List.mem_of_mem_take hx)
theorem num_bound {b : Int} (h0 : 0 ≤ b) (h1 : b < 256) {xs : List Int} (hB : InB xs) (hl : xs.length ≤ 8) : 0 ≤ num b xs ∧ num b xs < 4722366482869645213696 := by
  have h := num_range h0 h1 hB
  refine ⟨h.1, Int.lt_of_lt_of_le h.2 ?_⟩
  have e : ∀ k : Nat, k ≤ 9 → (256 : Int) ^ k ≤ 4722366482869645213696 := by
    intro k hk
    have c : k = 0 ∨ k = 1 ∨ k = 2 ∨ k = 3 ∨ k = 4 ∨ k = 5 ∨ k = 6 ∨ k = 7 ∨ k = 8 ∨ k = 9 := by omega
    rcases c with rfl | rfl | rfl | rfl | rfl | rfl | rfl | rfl | rfl | rfl <;> decide
  exact e _ (by omega)
theorem take_next {bs : List Int} {n0 j : Nat} (h : n0 + j + 1 < bs.length) : (bs.drop (n0 + 1)).take (j + 1) = (bs.drop (n0 + 1)).take j ++ [bs.getD (n0 + j + 1) 0] := by
  rw [List.take_add_one]
  congr 1
  rw [List.getElem?_drop]
  have e : n0 + 1 + j = n0 + j + 1 := by omega
  rw [e]
  simp [List.getD, h]
end Mine
end
example : (0 : Nat) = 0 := by w_top off; first | walk1 | rfl
-- part Base
section
open PySem PySem.W PyProof.Rows PySem.Calls PySem.Spec
namespace Mine
/-- what a call hands back: a value of a kind, nothing else made -/
abbrev RetV (h₀ : Heap) (L : Addr) (m : Str → Option Value) (news : List (Addr × Obj)) (s : Shared) (Q : Value → Shared → Prop) (R : Tok → Value) : Prop :=
  ∀ (t : Tok) (h' : Heap) (tk' : Nat), Fr h₀ L h' m → News h₀ L h' news → Q (R t) { s with heap := h', toks := tk' }
/-- .. a new list of these ints -/
abbrev RetL (h₀ : Heap) (L : Addr) (m : Str → Option Value) (news : List (Addr × Obj)) (s : Shared) (Q : Value → Shared → Prop) (ns : List Int) : Prop :=
  ∀ (r : Addr) (vs : List Value) (k : Nat) (h' : Heap) (tk' : Nat), IntsAre vs ns → Fr h₀ L h' m → News h₀ L h' ((r, W.listOf vs.toArray k) :: news) → (∀ p ∈ news, p.1 < r) → Q (.ref r) { s with heap := h', toks := tk' }
/-- .. an exception of a built-in class, made in the call -/
abbrev RetE (base h₀ : Heap) (L : Addr) (m : Str → Option Value) (l : List Env) (news : List (Addr × Obj)) (s : Shared) (E : Value → Shared → Prop) (X : String) : Prop :=
  ∀ (e : Addr) (h' : Heap) (tk' : Nat), RaisedN base l e (.type X) news h' → (∃ g, Fr h₀ L g m ∧ g.UpToSlots h') → E (.ref e) { s with heap := h', toks := tk' }
/-- a goal that the walk leaves alone -/
def Hold (P : Prop) : Prop := P
theorem unhold {P : Prop} (h : Hold P) : P := h
theorem shl_fits {a n : Int} (h1 : -1208925819614629174706176 < a) (h2 : a < 1208925819614629174706176) (hn : n ≤ 1000) : (Builtin.Int.intBits a : Int) + n ≤ 2 ^ 27 := by
  have h : Builtin.Int.intBits a ≤ 80 := intBits_le_iff.mpr (by simp only [Nat.reducePow]; omega)
  simp only [Int.reducePow]
  omega
abbrev mapAt {h₀ : Heap} {L : Addr} {h : Heap} {m : Str → Option Value} (_ : Fr h₀ L h m) : Str → Option Value := m
theorem raisedN_sub {base : Heap} {l : List Env} {e : Addr} {cls : Value} {news news' : List (Addr × Obj)} {h : Heap} (R : RaisedN base l e cls news' h) (hs : ∀ p ∈ news, p ∈ news') : RaisedN base l e cls news h := by
  obtain ⟨B, a0, b1, b2, b3⟩ := R
  exact ⟨B, a0, b1, fun q hq => b2 q (hs q hq), b3⟩
theorem upTo {h₀ g h : Heap} {L : Addr} {m : Str → Option Value} (FG : Fr h₀ L g m) (U : g.UpToSlots h) : h₀.UpToSlots h := (Heap.UpToSlots.of_keeps FG.keep).trans U
theorem intsAre_snoc {vs : List Value} {ns : List Int} (h : IntsAre vs ns) (n : Int) (t : Tok) : IntsAre (vs ++ [.int n t]) (ns ++ [n]) := by
  induction h with
  | nil => exact .cons _ _ .nil
  | cons a b _ ih => exact .cons a b ih
theorem kst_one {m : Str → Option Value} {x : Str} {v : Value} (h : m x = some v) : ∀ p ∈ [(x, v)], m p.1 = some p.2 := by
  intro p hp
  rw [List.mem_singleton.mp hp]
  exact h
theorem letC {α : Type} {M : Model} {A : Around} {t : Sem α} {Q : α → Shared → Prop} {E : Value → Shared → Prop} {s : Shared} (h : let qk := Q; let ek := E; wpC M A t qk ek s) : wpC M A t Q E s := h
end Mine
end
example : (0 : Nat) = 0 := by w_top off; first | walk1 | rfl
-- part L0
section
open PySem PySem.W PyProof.Rows PySem.Calls PySem.Spec
namespace Mine
example : PySem.Challenge.rw_vj0002_01 = PySem.Challenge.rw_vj0002_01 ∧ hd.heap_39 = hd.heap_39 := by k_fill; exact ⟨rfl, rfl⟩

local macro_rules | `(tactic| walk_at "binaryOp LShift int int") => `(tactic| ((with_reducible refine lshift_int ?kbn ?kbs ?_); (case kbn => decide); (case kbs => (refine shl_fits ?_ ?_ ?_ <;> first | assumption | omega | decide))))
section
variable {prog : Program} {w : World} {mean : ExcName → Option Value} {mg mb : Str → Option Value} {news : List (Addr × Obj)} 
   {dp un : Nat} {gd : Option (List Code)} {cn : Str} {cs : Scope} {a : Addr} {ccd : Value} {cl : List (Str × Addr)} {outer : List Env} {A₀ : Around} {base h₀ : Heap} {L : Addr} {m : Str → Option Value} {s : Shared} {Q E : Value → Shared → Prop}
    (B : Below A₀ base outer h₀) (F : Fr h₀ L s.heap m) (X : (hd.heap_39 w.params).In h₀) (N : News h₀ L s.heap news) (T : Top hd.view_39 (looseW hd.view_39 []) mean mg mb h₀) (hk : cs.kind = .function)
    (hd1 : dp + 1 < recursionLimit) (hu : un + 8 < cLine)
include B F X N T hk hd1 hu

set_option maxHeartbeats 4000000 in
theorem dec_ok {v : Int} {tv : Tok} (hret : RetV h₀ L m news s Q fun t => .int (dec v) t) (hb1 : -1208925819614629174706176 < v) (hb2 : v < 1208925819614629174706176) :
    wpAny (model prog w) (ktrTop dp un gd cn cs L a ccd cl outer) (call (.ref 28) [.int v tv]) Q E s := by
  refine wpAny_call ?_
  k_dflt cell_enter
  k_steps
  with_reducible rename Fr h₀ L _ _ => kF
  with_reducible rename News h₀ L _ _ => kN
  have e := dec_is v
  simp only [Int.reduceToNat, Int.pow_one]
  rw [e]
  exact hret _ _ _ kF kN
set_option maxHeartbeats 4000000 in
theorem enc_ok {v : Int} {tv : Tok} (hret : RetV h₀ L m news s Q fun t => .int (Builtin.bitXor (v * 2) (v.fdiv (2 ^ 63))) t) (hb1 : -1208925819614629174706176 < v) (hb2 : v < 1208925819614629174706176) :
    wpAny (model prog w) (ktrTop dp un gd cn cs L a ccd cl outer) (call (.ref 21) [.int v tv]) Q E s := by
  refine wpAny_call ?_
  k_dflt cell_enter
  k_steps
  with_reducible rename Fr h₀ L _ _ => kF
  with_reducible rename News h₀ L _ _ => kN
  show Q (Value.int (Builtin.bitXor (v * 2) (v.fdiv (2 ^ 63))) _) _
  exact hret _ _ _ kF kN
end
end Mine
end
example : (0 : Nat) = 0 := by w_top off; first | walk1 | rfl
-- part L1
section
open PySem PySem.W PyProof.Rows PySem.Calls PySem.Spec
namespace Mine
example : PySem.Challenge.rw_vj0002_01 = PySem.Challenge.rw_vj0002_01 ∧ hd.heap_39 = hd.heap_39 := by k_fill; exact ⟨rfl, rfl⟩

local macro_rules | `(tactic| walk_at "call type:list") => `(tactic| (k_here; (with_reducible show wpAny _ _ (call (Value.type "list") [Value.bytes _ _]) _ _ _); k_dflt (refine' list_bytes_K ?k1 ?k2 ?k3 ?k4 ?k5 ?_; (case k1 => k_asm); (case k2 => k_asm); (case k3 => rfl); (case k4 => kba_ints); (case k5 => kba_size)); intro r' vs' kk' h' tk' hI' F' N' l1; (try k_lt l1)))
section
variable {prog : Program} {w : World} {mean : ExcName → Option Value} {mg mb : Str → Option Value} {news : List (Addr × Obj)} 
   {dp un : Nat} {gd : Option (List Code)} {cn : Str} {cs : Scope} {a : Addr} {ccd : Value} {cl : List (Str × Addr)} {outer : List Env} {A₀ : Around} {base h₀ : Heap} {L : Addr} {m : Str → Option Value} {s : Shared} {Q E : Value → Shared → Prop}
    (B : Below A₀ base outer h₀) (F : Fr h₀ L s.heap m) (X : (hd.heap_39 w.params).In h₀) (N : News h₀ L s.heap news) (T : Top hd.view_39 (looseW hd.view_39 []) mean mg mb h₀) (hk : cs.kind = .function)
    (hd1 : dp + 1 < recursionLimit) (hu : un + 8 < cLine)
include B F X N T hk hd1 hu
set_option maxHeartbeats 4000000 in
theorem laid_ok {n : Int} {tn : Tok} (h0 : 0 ≤ n) (h1 : n < 2^64)  (hret : RetL h₀ L m news s Q (laid n)) :
    wpAny (model prog w) (ktrTop dp un gd cn cs L a ccd cl outer) (call (.ref 61) [.int n tn]) Q E s := by
  refine wpAny_call ?_
  k_dflt cell_enter
  k_steps
  · with_reducible rename PyProof.Rows.MarkC _ _ _ => hM
    have hm := more_of_loop h0 hM (by assumption) (by assumption) (by assumption) (by assumption)
    with_reducible rename (_ : Int) = 8 => he
    with_reducible rename IntsAre _ _ => hI
    with_reducible rename Fr h₀ L _ _ => kF
    with_reducible rename News h₀ L _ _ => kN
    with_reducible rename _ ∧ _ ∧ _ => hlt
    have e := laid_last h0 (by simpa using h1) (by omega)
    refine hret _ _ 0 _ _ (by rw [e]; exact hI) kF (kst_newsOf kN fun p hp => ?_) (fun p hp => kst_ltOf hlt.2.2 p hp)
    rcases List.mem_cons.mp hp with rfl | hp
    · exact .head _
    · exact .tail _ (.tail _ (.tail _ hp))
  · with_reducible rename PyProof.Rows.MarkC _ _ _ => hM
    have hm := more_of_loop h0 hM (by assumption) (by assumption) (by assumption) (by assumption)
    with_reducible rename (_ : Int) ≠ 8 => he
    have hk0 : (0 : Int) ≤ more n := by omega
    rw [← hm] at he
    have hm8 : more n < 8 := by have := more_le n; omega
    obtain ⟨s0, s1, s2⟩ := laid_sum h0 hm8
    clear hM
    simp only [← hm]
    have ek : ((more n : Int) + 1) = ((more n + 1 : Nat) : Int) := by omega
    have e7 : (7 * (more n : Int) + 8).toNat = 7 * more n + 8 := by omega
    rw [ek, e7, Int.toNat_natCast, Int.one_mul]
    refine KTBy.to_big (k := more n + 1) (by omega) rfl s0 s1 fun b t' k' hb hl => ?_
    replace hb : KBw.bInts b = laid n := hb.trans s2
    have hl' : (laid n).length ≤ 9 := by rw [← s2]; show (KTBy.little (more n + 1) _).reverse.length ≤ 9; rw [hl]; omega
    k_steps
    with_reducible rename IntsAre _ _ => hI
    with_reducible rename Fr h₀ L _ _ => kF
    with_reducible rename News h₀ L _ _ => kN
    exact hret _ _ _ _ _ hI kF kN (by assumption)
end
end Mine
end
example : (0 : Nat) = 0 := by w_top off; first | walk1 | rfl
-- part L2
section
open PySem PySem.W PyProof.Rows PySem.Calls PySem.Spec
namespace Mine
example : PySem.Challenge.rw_vj0002_01 = PySem.Challenge.rw_vj0002_01 ∧ hd.heap_39 = hd.heap_39 := by k_fill; exact ⟨rfl, rfl⟩
local macro_rules | `(tactic| walk_at "exec While Compare cons nil") => `(tactic| refine unhold ?_)
local macro_rules | `(tactic| walk_at "call ref") => `(tactic| refine unhold ?_)
local macro_rules | `(tactic| walk_at "binaryOp RShift int int") => `(tactic| ((with_reducible refine rshift_int ?_ ?_); first | decide | (with_reducible assumption)))
local macro_rules | `(tactic| walk_at "inplaceOp LShift int int") => `(tactic| ((with_reducible refine ilshift_int ?kbn ?kbs ?_); (case kbn => decide); (case kbs => (refine shl_fits ?_ ?_ ?_ <;> first | assumption | omega | decide))))
local macro_rules | `(tactic| walk_at "subscriptTail") => `(tactic| (k_here; (with_reducible show wpAny _ _ (subscriptTail _ _ (Value.bytes _ _) (Value.int _ _)) _ _ _); (refine bytes_item_out rfl (by with_reducible assumption) (by with_reducible assumption) ?_); intro h' tk' e' x'))
local macro_rules | `(tactic| walk_at "KswPost") => `(tactic| refine unhold ?_)
local macro_rules | `(tactic| k_all) => `(tactic| with_reducible assumption)
local macro_rules | `(tactic| ktr_room) => `(tactic| omega)

structure USt where
  n : Int
  tn : Tok
  vs : List Value
  vals : List Int
  k : Nat
/-- what holds between the turns of vints_unpack's loop -/
def UP (bs : List Int) (c : USt) : Prop := 0 ≤ c.n ∧ c.n ≤ bs.length ∧ c.vals.length ≤ c.n.toNat ∧ readL bs = (readL (bs.drop c.n.toNat)).map (c.vals ++ ·)
structure ISt where
  n : Int
  tn : Tok
  v : Int
  tv : Tok
/-- .. and of the loop within it -/
def IP (bs : List Int) (n0 : Nat) (x : Int) (c : ISt) : Prop := ∃ j : Nat, c.n = ((n0 + j : Nat) : Int) ∧ j ≤ lead x ∧ n0 + j < bs.length ∧ c.v = num x ((bs.drop (n0 + 1)).take j)
section
variable {prog : Program} {w : World} {mean : ExcName → Option Value} {mg mb : Str → Option Value} {news : List (Addr × Obj)} 
   {dp un : Nat} {gd : Option (List Code)} {cn : Str} {cs : Scope} {a : Addr} {ccd : Value} {cl : List (Str × Addr)} {outer : List Env} {A₀ : Around} {base h₀ : Heap} {L : Addr} {m : Str → Option Value} {s : Shared} {Q E : Value → Shared → Prop}
    (B : Below A₀ base outer h₀) (F : Fr h₀ L s.heap m) (X : (hd.heap_39 w.params).In h₀) (N : News h₀ L s.heap news) (T : Top hd.view_39 (looseW hd.view_39 []) mean mg mb h₀) (hk : cs.kind = .function)
    (hd1 : dp + 4 < recursionLimit) (hu : un + 30 < cLine)
include B F X N T hk hd1 hu

set_option maxHeartbeats 4000000 in
theorem unpack_ok {b : Array UInt8} {tb : Tok} {bs : List Int} (hb : KBw.bInts b = bs) (hlen : bs.length ≤ 100) (hB : InB bs)
    (hret : ∀ ns, readL bs = some ns → ∀ (r : Addr) (vs : List Value) (h' : Heap) (tk' : Nat), IntsAre vs ns → Fr h₀ L h' m → News h₀ L h' ((r, ({ cls := .type "tuple", data := .seq vs.toArray } : Obj)) :: news) → Q (.ref r) { s with heap := h', toks := tk' })
    (hexc : readL bs = none → RetE base h₀ L m (envX cn cs L a ccd cl :: outer) news s E "IndexError") :
    wpAny (model prog w) (ktrTop dp un gd cn cs L a ccd cl outer) (call (.ref 35) [.bytes b tb]) Q E s := by
  refine wpAny_call ?_
  k_dflt cell_enter
  k_steps
  rename_i g1 L1 h3 FG B1 X1 T1 tk0 V h2 lV h1 h0 F1 N1
  refine ksw_while (σ := USt) (fun c => (V, W.listOf c.vs.toArray c.k) :: news) (fun c => [(Str.ofString "n", .int c.n c.tn)]) (fun c => IntsAre c.vs c.vals)
    [Str.ofString "first_byte", Str.ofString "val", Str.ofString "num_extra_bytes", Str.ofString "end"] (UP bs) (fun c => bs.length - c.n.toNat) ⟨0, tk, [], [], 0⟩ F1 N1 .nil ?_ ?_ ?_
  · intro p hp
    cases hp with
    | head => rfl
    | tail _ hp => cases hp
  · exact ⟨Int.le_refl _, Int.natCast_nonneg _, Nat.zero_le _, by simp⟩
  · intro c u h tk9 hI hP F N
    obtain ⟨p0, p1, p2, p3⟩ := hP
    obtain ⟨n, tn, vs, vals, k⟩ := c
    dsimp only [kstB] at p0 p1 p2 p3 hI F N ⊢
    obtain ⟨n, rfl⟩ := Int.eq_ofNat_of_zero_le p0
    have hne : ∀ p ∈ news, p.1 ≠ V := fun p hp => Nat.ne_of_lt (lV p hp)
    have hvs : vs.length ≤ 100 := by rw [hI.length]; omega
    by_cases hn : n < bs.length
    · have hx0 : 0 ≤ bs.getD n 0 ∧ bs.getD n 0 < 256 := KBw.getD_in hB
      have hl0 : (0 : Int) ≤ (8 : Int) - ((Builtin.Int.intBits (Builtin.bitAnd (Builtin.bitNot (bs.getD n 0)) 255) : Nat) : Int) := by rw [lead_is hx0.1 hx0.2]; omega
      k_steps
      · with_reducible rename Builtin.bitAnd _ 128 = 0 => hsm
        with_reducible rename Fr g1 L1 _ _ => F2
        with_reducible rename News g1 L1 _ _ => N2
        obtain ⟨e1, e2⟩ := small_first hx0.1 hx0.2 hsm
        unfold Hold
        with_unfolding_all refine' dec_ok B1 F2 X1 N2 T1 rfl ?_ ?_ ?_ ?_ ?_
        · show dp + 1 + 1 < recursionLimit
          omega
        · show un + 3 + 8 < cLine
          omega
        · intro t5 h5 tk5 F5 N5
          dsimp only
          k_steps
          with_reducible rename Fr g1 L1 _ _ => F6
          with_reducible rename News g1 L1 _ _ => N6
          obtain ⟨tq, hq⟩ : ∃ t, mapAt F6 (Str.ofString "n") = some (.int ((n : Int) + 1) t) := ⟨_, rfl⟩
          rw [List.push_toArray] at N6
          have hk0 : n + lead (bs.getD n 0) < bs.length := by omega
          have hnx := read_next hn hk0 (by simpa using p3)
          rw [e1, List.take_zero, e2, Nat.add_zero] at hnx
          exact ksw_end (σ := USt) ⟨(n : Int) + 1, tq, vs ++ [.int (dec (bs.getD n 0)) t5], vals ++ [dec (bs.getD n 0)], k + 1⟩ F6 N6 (fun _ hp => hp) (intsAre_snoc hI _ _) (kst_one hq) (by ksw_same)
            ⟨by show (0 : Int) ≤ (n : Int) + 1; omega, by show (n : Int) + 1 ≤ bs.length; omega, by simp; omega, hnx⟩ (by show bs.length - ((n : Int) + 1).toNat < bs.length - (n : Int).toNat; omega)
        · have := hx0.1; show -1208925819614629174706176 < bs.getD n 0; omega
        · have := hx0.2; show bs.getD n 0 < 1208925819614629174706176; omega
      · rename (_ : Int) - _ < 0 => hneg
        exact absurd hneg (Int.not_lt.mpr hl0)
      · with_reducible rename Fr g1 L1 _ _ => F2
        with_reducible rename News g1 L1 _ _ => N2
        unfold Hold
        have hx9 := lead_is hx0.1 hx0.2
        obtain ⟨tv, hv⟩ : ∃ t, mapAt F2 (Str.ofString "val") = some (.int (Builtin.bitAnd (bs.getD n 0) ((255 : Int).fdiv (2 ^ ((8 : Int) - ((Builtin.Int.intBits (Builtin.bitAnd (Builtin.bitNot (bs.getD n 0)) 255) : Nat) : Int)).toNat))) t) := ⟨_, rfl⟩
        rw [first_is hx0.1 hx0.2] at hv
        obtain ⟨te, he⟩ : ∃ t, mapAt F2 (Str.ofString "end") = some (.int ((n : Int) + ((8 : Int) - ((Builtin.Int.intBits (Builtin.bitAnd (Builtin.bitNot (bs.getD n 0)) 255) : Nat) : Int))) t) := ⟨_, rfl⟩
        rw [hx9] at he
        refine ksw_while (σ := ISt) (fun _ => (V, W.listOf vs.toArray k) :: news) (fun d => [(Str.ofString "n", .int d.n d.tn), (Str.ofString "val", .int d.v d.tv), (Str.ofString "end", .int ((n : Int) + lead (bs.getD n 0)) te), (Str.ofString "values", .ref V), (Str.ofString "term", .bytes b tb)]) (fun _ => True)
          [] (IP bs n (bs.getD n 0)) (fun d => n + lead (bs.getD n 0) - d.n.toNat) ⟨n, tn, num (bs.getD n 0) [], tv⟩ F2 N2 trivial ?_ ?_ ?_
        · exact List.forall_mem_cons.mpr ⟨rfl, List.forall_mem_cons.mpr ⟨hv, List.forall_mem_cons.mpr ⟨he, List.forall_mem_cons.mpr ⟨rfl, List.forall_mem_cons.mpr ⟨rfl, List.forall_mem_nil _⟩⟩⟩⟩⟩
        · exact ⟨0, rfl, Nat.zero_le _, hn, by rw [List.take_zero]⟩
        · rintro ⟨n2, tn2, v2, tv2⟩ u2 h2 tk2 _ ⟨j, e1, e2, e3, e4⟩ F3 N3
          dsimp only [kstB] at e1 e2 e3 e4 F3 N3 ⊢
          subst e1 e4
          have hv2 := num_bound hx0.1 hx0.2 (inB_take (inB_drop hB (n + 1)) j) (by rw [List.length_take, List.length_drop]; have := lead_le (bs.getD n 0); omega)
          have hb1 : -1208925819614629174706176 < num (bs.getD n 0) ((bs.drop (n + 1)).take j) := by omega
          have hb2 : num (bs.getD n 0) ((bs.drop (n + 1)).take j) < 1208925819614629174706176 := by omega
          by_cases hj : j < lead (bs.getD n 0)
          · by_cases hin : n + j + 1 < bs.length
            · k_steps
              with_reducible rename Fr g1 L1 _ _ => F6
              with_reducible rename News g1 L1 _ _ => N6
              have hy := KBw.getD_in (ks := bs) (j := n + j + 1) hB
              obtain ⟨tn5, hn5⟩ : ∃ t, mapAt F6 (Str.ofString "n") = some (.int ((n + (j + 1) : Nat) : Int) t) := ⟨_, rfl⟩
              obtain ⟨v5, tv5, hv5, ev⟩ : ∃ v t, mapAt F6 (Str.ofString "val") = some (.int v t) ∧ v = num (bs.getD n 0) ((bs.drop (n + 1)).take (j + 1)) := by
                refine ⟨_, _, rfl, ?_⟩
                have et : (((n + j : Nat) : Int) + 1).toNat = n + j + 1 := by omega
                rw [et, and255 hy.1 hy.2, take_next hin, num_snoc]
                exact or_byte hy.1 hy.2
              subst ev
              exact ksw_end (σ := ISt) ⟨((n + (j + 1) : Nat) : Int), tn5, num (bs.getD n 0) ((bs.drop (n + 1)).take (j + 1)), tv5⟩ F6 N6 (fun _ hp => hp) trivial
                (List.forall_mem_cons.mpr ⟨hn5, List.forall_mem_cons.mpr ⟨hv5, List.forall_mem_cons.mpr ⟨rfl, List.forall_mem_cons.mpr ⟨rfl, List.forall_mem_cons.mpr ⟨rfl, List.forall_mem_nil _⟩⟩⟩⟩⟩) (by ksw_same)
                ⟨j + 1, rfl, hj, by omega, rfl⟩ (by show n + lead (bs.getD n 0) - ((n + (j + 1) : Nat) : Int).toNat < n + lead (bs.getD n 0) - ((n + j : Nat) : Int).toNat; omega)
            · have hout : (b.size : Int) ≤ ((n + j : Nat) : Int) + 1 := by rw [← KBw.ints_length b, hb]; omega
              have hhi : ((n + j : Nat) : Int) + 1 < 2 ^ 63 := by simp only [Int.reducePow]; omega
              k_steps
              with_reducible rename RaisedN _ _ _ _ _ _ => hR
              with_reducible rename g1.UpToSlots _ => hU
              exact hexc (read_none hn (by omega) (by simpa using p3)) _ _ _ (raisedN_sub hR fun p hp => .tail _ hp) ⟨_, FG, hU⟩
          · k_steps
            with_reducible rename Fr g1 L1 _ _ => F4
            with_reducible rename News g1 L1 _ _ => N4
            have ej : j = lead (bs.getD n 0) := by omega
            subst ej
            unfold Hold
            with_unfolding_all refine' dec_ok B1 F4 X1 N4 T1 rfl ?_ ?_ ?_ ?_ ?_
            · show dp + 1 + 1 < recursionLimit
              omega
            · show un + 3 + 8 < cLine
              omega
            · intro t5 h5 tk5 F5 N5
              dsimp only
              k_steps
              with_reducible rename Fr g1 L1 _ _ => F6
              with_reducible rename News g1 L1 _ _ => N6
              obtain ⟨tq, hq⟩ : ∃ t, mapAt F6 (Str.ofString "n") = some (.int (((n + lead (bs.getD n 0) : Nat) : Int) + 1) t) := ⟨_, rfl⟩
              rw [List.push_toArray] at N6
              have hnx := read_next hn e3 (by simpa using p3)
              exact ksw_end (σ := USt) ⟨((n + lead (bs.getD n 0) : Nat) : Int) + 1, tq, vs ++ [.int (dec (num (bs.getD n 0) ((bs.drop (n + 1)).take (lead (bs.getD n 0))))) t5], vals ++ [dec (num (bs.getD n 0) ((bs.drop (n + 1)).take (lead (bs.getD n 0))))], k + 1⟩ F6 N6 (fun _ hp => hp) (intsAre_snoc hI _ _) (kst_one hq) (by
                  intro z h2 h3
                  simp only [List.forall_mem_cons, List.not_mem_nil, false_implies, implies_true, and_true, ne_eq] at h2
                  simp only [List.contains_cons, List.contains_nil, Bool.or_false, Bool.or_eq_false_iff, beq_eq_false_iff_ne, ne_eq] at h3
                  by_cases hz : z = Str.ofString "term"
                  · subst hz; rfl
                  · simp [h2, h3, hz]
                    (repeat' split) <;> first | rfl | simp_all)
                ⟨by show (0 : Int) ≤ ((n + lead (bs.getD n 0) : Nat) : Int) + 1; omega, by show ((n + lead (bs.getD n 0) : Nat) : Int) + 1 ≤ bs.length; omega, by simp; omega, hnx⟩ (by show bs.length - (((n + lead (bs.getD n 0) : Nat) : Int) + 1).toNat < bs.length - (n : Int).toNat; omega)
            · exact hb1
            · exact hb2
    · k_steps
      have hne2 : bs.drop n = [] := List.drop_eq_nil_of_le (by omega)
      have hr : readL bs = some vals := by rw [p3, Int.toNat_natCast, hne2, readL]; simp
      with_reducible rename Fr h₀ L _ _ => kF
      with_reducible rename News h₀ L _ _ => kN
      refine hret vals hr _ _ _ _ hI kF (kst_newsOf kN fun p hp => ?_)
      rcases List.mem_cons.mp hp with rfl | hp
      · exact .head _
      · exact .tail _ (.tail _ hp)
end
end Mine
end
example : (0 : Nat) = 0 := by w_top off; first | walk1 | rfl
-- part L3
section
open PySem PySem.W PyProof.Rows PySem.Calls PySem.Spec
namespace Mine
example : PySem.Challenge.rw_vj0002_01 = PySem.Challenge.rw_vj0002_01 ∧ hd.heap_39 = hd.heap_39 := by k_fill; exact ⟨rfl, rfl⟩
local macro_rules | `(tactic| walk_at "pyIter ref") => `(tactic| refine unhold ?_)
local macro_rules | `(tactic| walk_at "inplaceOp LShift int int") => `(tactic| ((with_reducible refine ilshift_int ?kbn ?kbs ?_); (case kbn => decide); (case kbs => (refine shl_fits ?_ ?_ ?_ <;> first | assumption | omega | decide))))
local macro_rules | `(tactic| walk_at "InvPostN") => `(tactic| refine unhold ?_)
local macro_rules | `(tactic| ktr_room) => `(tactic| omega)

theorem small_range {q : Nat} (h : q ≤ 8) : Builtin.Range.small 1 ((q : Int) + 1) 1 = true := by
  have c : q = 0 ∨ q = 1 ∨ q = 2 ∨ q = 3 ∨ q = 4 ∨ q = 5 ∨ q = 6 ∨ q = 7 ∨ q = 8 := by omega
  rcases c with rfl | rfl | rfl | rfl | rfl | rfl | rfl | rfl | rfl <;> decide +kernel
structure VSt where
  v : Int
  tv : Tok
section
variable {prog : Program} {w : World} {mean : ExcName → Option Value} {mg mb : Str → Option Value} {news : List (Addr × Obj)} 
   {dp un : Nat} {gd : Option (List Code)} {cn : Str} {cs : Scope} {a : Addr} {ccd : Value} {cl : List (Str × Addr)} {outer : List Env} {A₀ : Around} {base h₀ : Heap} {L : Addr} {m : Str → Option Value} {s : Shared} {Q E : Value → Shared → Prop}
    (B : Below A₀ base outer h₀) (F : Fr h₀ L s.heap m) (X : (hd.heap_39 w.params).In h₀) (N : News h₀ L s.heap news) (T : Top hd.view_39 (looseW hd.view_39 []) mean mg mb h₀) (hk : cs.kind = .function)
    (hd1 : dp + 4 < recursionLimit) (hu : un + 30 < cLine)
include B F X N T hk hd1 hu

set_option maxHeartbeats 4000000 in
theorem uunpack_ok {b : Array UInt8} {tb : Tok} {bs : List Int} (hb : KBw.bInts b = bs) (hlen : bs.length ≤ 100) (hB : InB bs) (hl : lead (bs.getD 0 0) < bs.length)
    (hret : ∀ (r : Addr) (t1 t2 : Tok) (h' : Heap) (tk' : Nat), Fr h₀ L h' m → News h₀ L h' ((r, ({ cls := .type "tuple", data := .seq #[.int (num (bs.getD 0 0) ((bs.drop 1).take (lead (bs.getD 0 0)))) t1, .int (lead (bs.getD 0 0) + 1 : Nat) t2] } : Obj)) :: news) → Q (.ref r) { s with heap := h', toks := tk' }) :
    wpAny (model prog w) (ktrTop dp un gd cn cs L a ccd cl outer) (call (.ref 47) [.bytes b tb]) Q E s := by
  have hx0 : 0 ≤ bs.getD 0 0 ∧ bs.getD 0 0 < 256 := KBw.getD_in hB
  have hl0 : (0 : Int) ≤ (8 : Int) - ((Builtin.Int.intBits (Builtin.bitAnd (Builtin.bitNot (bs.getD 0 0)) 255) : Nat) : Int) := by rw [lead_is hx0.1 hx0.2]; omega
  refine wpAny_call ?_
  k_dflt cell_enter
  k_steps
  · with_reducible rename Builtin.bitAnd _ 128 = 0 => hsm
    with_reducible rename Fr h₀ L _ _ => kF
    with_reducible rename News h₀ L _ _ => kN
    obtain ⟨e1, e2⟩ := small_first hx0.1 hx0.2 hsm
    rw [e1, List.take_zero, e2] at hret
    exact hret _ _ _ _ _ kF kN
  · rename (_ : Int) - _ < 0 => hneg
    exact absurd hneg (Int.not_lt.mpr hl0)
  · rename_i g1 L1 h3 FG B1 X1 T1 tk1 t1 k1 kb1 kb2 h2 hbig h5 hge h6 F1 N1 h7 tk7 t7 u7 v7 hR F2 N2 hK
    unfold Hold
    have hx9 := lead_is hx0.1 hx0.2
    obtain ⟨tv, hv⟩ : ∃ t, mapAt F2 (Str.ofString "rv") = some (.int (Builtin.bitAnd (bs.getD 0 0) ((255 : Int).fdiv (2 ^ ((8 : Int) - ((Builtin.Int.intBits (Builtin.bitAnd (Builtin.bitNot (bs.getD 0 0)) 255) : Nat) : Int)).toNat))) t) := ⟨_, rfl⟩
    rw [first_is hx0.1 hx0.2] at hv
    obtain ⟨te, he⟩ : ∃ t, mapAt F2 (Str.ofString "num_extra_bytes") = some (.int ((8 : Int) - ((Builtin.Int.intBits (Builtin.bitAnd (Builtin.bitNot (bs.getD 0 0)) 255) : Nat) : Int)) t) := ⟨_, rfl⟩
    rw [hx9] at he
    have hR' : IsRange h7 h6.objs.size 1 ((lead (bs.getD 0 0) : Int) + 1) 1 t7 u7 v7 := by rw [← hx9]; exact hR
    have hl8 := lead_le (bs.getD 0 0)
    refine kst_range (σ := VSt) (n := lead (bs.getD 0 0)) (fun _ => news) (fun d => [(Str.ofString "rv", .int d.v d.tv), (Str.ofString "num_extra_bytes", .int (lead (bs.getD 0 0)) te), (Str.ofString "term", .bytes b tb)]) (fun _ => True)
      [Str.ofString "new_byte"] (fun pre d => d.v = num (bs.getD 0 0) ((bs.drop 1).take pre.length)) ⟨num (bs.getD 0 0) [], tv⟩ rfl hR' ?_ ?_ F2 N2 trivial ?_ ?_ ?_ ?_
    · exact small_range hl8
    · rw [rangeSize_nat]
      omega
    · exact List.forall_mem_cons.mpr ⟨hv, List.forall_mem_cons.mpr ⟨he, List.forall_mem_cons.mpr ⟨rfl, List.forall_mem_nil _⟩⟩⟩
    · rw [List.length_nil, List.take_zero]
    · rintro ⟨v2, tv2⟩ pre k2 tk2 u2 h8 tk8 own ek hlt hoff _ hP F3 N3
      dsimp only [kstB] at hP F3 N3 ⊢
      subst hP ek
      have hv2 := num_bound hx0.1 hx0.2 (inB_take (inB_drop hB 1) pre.length) (by rw [List.length_take, List.length_drop]; omega)
      have hb1 : -1208925819614629174706176 < num (bs.getD 0 0) ((bs.drop 1).take pre.length) := by omega
      have hb2 : num (bs.getD 0 0) ((bs.drop 1).take pre.length) < 1208925819614629174706176 := by omega
      k_steps
      with_reducible rename Fr g1 L1 _ _ => F6
      with_reducible rename News g1 L1 _ _ => N6
      have hy := KBw.getD_in (ks := bs) (j := 0 + pre.length + 1) hB
      obtain ⟨v5, tv5, hv5, ev⟩ : ∃ v t, mapAt F6 (Str.ofString "rv") = some (.int v t) ∧ v = num (bs.getD 0 0) ((bs.drop 1).take (pre.length + 1)) := by
        refine ⟨_, _, rfl, ?_⟩
        have et : ((1 : Int) + (pre.length : Int)).toNat = 0 + pre.length + 1 := by omega
        rw [et, and255 hy.1 hy.2, take_next (n0 := 0) (by omega), num_snoc]
        exact or_byte hy.1 hy.2
      refine kst_end (σ := VSt) ⟨v5, tv5⟩ F6 N6 (fun p hp => List.mem_append_left _ hp) (fun p hp => List.mem_append_right _ hp) rfl trivial ?_ ?_ ?_
      · exact List.forall_mem_cons.mpr ⟨hv5, List.forall_mem_cons.mpr ⟨rfl, List.forall_mem_cons.mpr ⟨rfl, List.forall_mem_nil _⟩⟩⟩
      · kst_same
      · rw [ev, List.length_append, List.length_singleton]
    · rintro ⟨v2, tv2⟩ u2 h8 tk8 _ hP F3 N3
      dsimp only [kstB] at hP F3 N3 ⊢
      subst hP
      rw [rangeKs_length] at F3
      k_steps
      with_reducible rename Fr h₀ L _ _ => kF
      with_reducible rename News h₀ L _ _ => kN
      exact hret _ _ _ _ _ kF kN
end
end Mine
end
example : (0 : Nat) = 0 := by w_top off; first | walk1 | rfl
-- part L4
section
open PySem PySem.W PyProof.Rows PySem.Calls PySem.Spec
namespace Mine
example : PySem.Challenge.rw_vj0002_01 = PySem.Challenge.rw_vj0002_01 ∧ hd.heap_39 = hd.heap_39 := by k_fill; exact ⟨rfl, rfl⟩
local macro_rules | `(tactic| walk_at "exec While Compare cons nil") => `(tactic| refine unhold ?_)
local macro_rules | `(tactic| walk_at "pyIter ref") => `(tactic| refine unhold ?_)
local macro_rules | `(tactic| walk_at "KswPost") => `(tactic| refine unhold ?_)
local macro_rules | `(tactic| walk_at "InvPostN") => `(tactic| refine unhold ?_)
local macro_rules | `(tactic| k_all) => `(tactic| with_reducible assumption)
local macro_rules | `(tactic| ktr_room) => `(tactic| omega)
local macro_rules | `(tactic| walk_at "exec For Name Subscript cons nil") => `(tactic| refine unhold ?_)
theorem lead_bit {b : Int} (h0 : 0 ≤ b) (h1 : b < 256) (j : Nat) (hj : j < 8) : ((Builtin.bitAnd (b.fdiv (2 ^ ((7 : Int) - (j : Int)).toNat)) 1 != 0) = true) ↔ (b / 2 ^ (7 - j)) % 2 = 1 := by
  have e : ((7 : Int) - (j : Int)).toNat = 7 - j := by omega
  rw [e, bitAnd_m1, Int.fdiv_eq_ediv_of_nonneg _ (by exact Int.le_of_lt (Int.pow_pos (by omega)))]
  have h2 := Int.emod_two_eq (b / 2 ^ (7 - j))
  rcases h2 with h | h <;> simp [h]
theorem lead_stop {b : Int} (h0 : 0 ≤ b) (h1 : b < 256) : ∀ k : Fin 9, (∀ j : Fin 8, j.val < k.val → (b / 2 ^ (7 - j.val)) % 2 = 1) → (k.val < 8 → (b / 2 ^ (7 - k.val)) % 2 ≠ 1) → lead b = k.val :=
  byte_of (P := fun b => ∀ k : Fin 9, (∀ j : Fin 8, j.val < k.val → (b / 2 ^ (7 - j.val)) % 2 = 1) → (k.val < 8 → (b / 2 ^ (7 - k.val)) % 2 ≠ 1) → lead b = k.val) (by decide +kernel) h0 h1
theorem lead_of_loop {b k : Int} (h0 : 0 ≤ b) (h1 : b < 256) (hk0 : 0 ≤ k) (hk8 : k ≤ max 0 8)
    (hlo : ∀ j : Int, 0 ≤ j → j < k → (if j < 8 then if (Builtin.bitAnd (b.fdiv (2 ^ (7 - j).toNat)) 1 != 0) = true then true else false else false) = true)
    (hhi : (if k < 8 then if (Builtin.bitAnd (b.fdiv (2 ^ (7 - k).toNat)) 1 != 0) = true then true else false else false) = false) : k = (lead b : Int) := by
  obtain ⟨k, rfl⟩ := Int.eq_ofNat_of_zero_le hk0
  rw [lead_stop h0 h1 ⟨k, by omega⟩ (fun j hj => ?_) fun hk => ?_]
  · have hl := hlo (j.val : Int) (by omega) (by show (j.val : Int) < (k : Int); have : j.val < k := hj; omega)
    rw [if_pos (by have := j.isLt; omega)] at hl
    refine (lead_bit h0 h1 j.val j.isLt).mp ?_
    by_cases e : (Builtin.bitAnd (b.fdiv (2 ^ ((7 : Int) - (j.val : Int)).toNat)) 1 != 0) = true
    · exact e
    · rw [if_neg e] at hl; cases hl
  · have hk' : k < 8 := hk
    rw [if_pos (by omega)] at hhi
    intro h
    have := (lead_bit h0 h1 k hk').mpr h
    rw [if_pos this] at hhi
    cases hhi
theorem first_mod {b : Int} : b.fmod (1 * 2 ^ ((8 : Int) - (lead b : Int)).toNat) = num b [] := by
  have hl := lead_le b
  have e : ((8 : Int) - (lead b : Int)).toNat = 8 - lead b := by omega
  rw [e, Int.one_mul, num_nil, Int.fmod_eq_emod_of_nonneg _ (by exact Int.le_of_lt (Int.pow_pos (by omega)))]
theorem dec_odd {v : Int} (h : v.fmod 2 ≠ 0) : (-(v + 1)).fdiv 2 = dec v := by
  rw [Int.fmod_eq_emod_of_nonneg _ (by omega)] at h
  rw [Int.fdiv_eq_ediv_of_nonneg _ (by omega)]
  unfold dec
  rw [if_neg h]
theorem dec_even {v : Int} (h : v.fmod 2 = 0) : v.fdiv 2 = dec v := by
  rw [Int.fmod_eq_emod_of_nonneg _ (by omega)] at h
  rw [Int.fdiv_eq_ediv_of_nonneg _ (by omega)]
  unfold dec
  rw [if_pos h]
structure FSt where
  v : Int
  tv : Tok
structure RSt where
  k : Int
  tk : Tok
  vs : List Value
  vals : List Int
  n : Nat

def RP (bs : List Int) (c : RSt) : Prop := 0 ≤ c.k ∧ c.k ≤ bs.length ∧ c.vals.length ≤ c.k.toNat ∧ readL bs = (readL (bs.drop c.k.toNat)).map (c.vals ++ ·)
section
variable {prog : Program} {w : World} {mean : ExcName → Option Value} {mg mb : Str → Option Value} {news : List (Addr × Obj)} 
   {dp un : Nat} {gd : Option (List Code)} {cn : Str} {cs : Scope} {a : Addr} {ccd : Value} {cl : List (Str × Addr)} {outer : List Env} {A₀ : Around} {base h₀ : Heap} {L l : Addr} {us : List Value} {nn : Nat} {m : Str → Option Value} {s : Shared} {Q E : Value → Shared → Prop}
    (B : Below A₀ base outer h₀) (F : Fr h₀ L s.heap m) (X : (hd.heap_39 w.params).In h₀) (N : News h₀ L s.heap ((l, W.listOf us.toArray nn) :: news)) (T : Top hd.view_39 (looseW hd.view_39 []) mean mg mb h₀) (hk : cs.kind = .function)
    (hd1 : dp + 4 < recursionLimit) (hu : un + 30 < cLine)
include B F X N T hk hd1 hu

set_option maxHeartbeats 4000000 in
theorem read_ok {bs : List Int} (hU : IntsAre us bs) (hlen : bs.length ≤ 12) (hB : InB bs)
    (hret : ∀ ns, readL bs = some ns → RetL h₀ L m ((l, W.listOf us.toArray nn) :: news) s Q ns)
    (hnone : readL bs = none → RetV h₀ L m ((l, W.listOf us.toArray nn) :: news) s Q fun _ => .none) :
    wpAny (model prog w) (ktrTop dp un gd cn cs L a ccd cl outer) (call (.ref 68) [.ref l]) Q E s := by
  refine wpAny_call ?_
  k_dflt cell_enter
  k_steps
  rename_i g1 L1 h3 FG B1 X1 T1 tkA V hA lV TU hB2 lTU hC hD h0 F1 N1
  unfold Hold
  refine ksw_while (σ := RSt) (fun c => (V, W.listOf c.vs.toArray c.n) :: (l, W.listOf us.toArray nn) :: news) (fun c => [(Str.ofString "k", .int c.k c.tk), (Str.ofString "found", .ref V), (Str.ofString "octets", .ref l)]) (fun c => IntsAre c.vs c.vals)
    [Str.ofString "more", Str.ofString "number", Str.ofString "octet"] (RP bs) (fun c => bs.length - c.k.toNat) ⟨0, tkA, [], [], 0⟩ F1 (kst_newsOf N1 fun _ hp => .tail _ hp) .nil ?_ ?_ ?_
  · exact List.forall_mem_cons.mpr ⟨rfl, List.forall_mem_cons.mpr ⟨rfl, List.forall_mem_cons.mpr ⟨rfl, List.forall_mem_nil _⟩⟩⟩
  · exact ⟨Int.le_refl _, Int.natCast_nonneg _, Nat.zero_le _, by simp⟩
  · rintro ⟨k, tk0, vs, vals, n9⟩ u h tk9 hI ⟨p0, p1, p2, p3⟩ F N
    dsimp only [kstB] at p0 p1 p2 p3 hI F N ⊢
    obtain ⟨n, rfl⟩ := Int.eq_ofNat_of_zero_le p0
    have hne : ∀ p ∈ news, p.1 ≠ V := fun p hp => Nat.ne_of_lt (kst_ltOf lV.2 p hp)
    have hne2 : l ≠ V := Nat.ne_of_lt lV.1
    have hvs : vs.length ≤ 12 := by rw [hI.length]; omega
    have hus : us.length = bs.length := hU.length
    by_cases hn : n < bs.length
    · have hx0 : 0 ≤ bs.getD n 0 ∧ bs.getD n 0 < 256 := KBw.getD_in hB
      k_steps
      · have e9 := lead_of_loop hx0.1 hx0.2 (by assumption) (by assumption) (by assumption) (by assumption)
        unfold Hold KswPost
        dsimp only
        k_steps
        with_reducible rename Fr h₀ L _ _ => kF
        with_reducible rename News h₀ L _ _ => kN
        refine hnone (read_none hn (by omega) (by simpa using p3)) 0 _ _ kF (kst_newsOf kN fun p hp => ?_)
        first | exact hp | exact .tail _ hp | exact .tail _ (.tail _ hp)
      · have e9 := lead_of_loop hx0.1 hx0.2 (by assumption) (by assumption) (by assumption) (by assumption)
        with_reducible rename Fr g1 L1 _ _ => F2
        with_reducible rename News g1 L1 _ _ => N2
        unfold Hold
        have hl8 := lead_le (bs.getD n 0)
        have hk9 : n + lead (bs.getD n 0) < bs.length := by omega
        subst e9
        obtain ⟨tv, hv⟩ : ∃ t, mapAt F2 (Str.ofString "number") = some (.int ((bs.getD n 0).fmod (1 * 2 ^ ((8 : Int) - (lead (bs.getD n 0) : Int)).toNat)) t) := ⟨_, rfl⟩
        rw [first_mod] at hv
        obtain ⟨tm, hm⟩ : ∃ t, mapAt F2 (Str.ofString "more") = some (.int (lead (bs.getD n 0)) t) := ⟨_, rfl⟩
        with_unfolding_all refine' For_invVF F2 ?k1 ?k2 ?_
        case k1 => rfl
        case k2 => rfl
        k_steps
        with_reducible rename Fr g1 L1 _ _ => F3
        with_reducible rename News g1 L1 _ _ => N3
        with_reducible rename IntsAre _ _ => hI3
        with_reducible rename _ ∧ _ ∧ _ => hD
        rename_i D ws h3' _ _
        unfold Hold
        have exs : List.take (min ((n : Int) + 1 + (lead (bs.getD n 0) : Int)).toNat bs.length - ((n : Int) + 1).toNat) (List.drop ((n : Int) + 1).toNat bs) = (bs.drop (n + 1)).take (lead (bs.getD n 0)) := by
          have ea : ((n : Int) + 1).toNat = n + 1 := by omega
          have eb : min ((n : Int) + 1 + (lead (bs.getD n 0) : Int)).toNat bs.length - (n + 1) = lead (bs.getD n 0) := by omega
          rw [ea, eb]
        rw [exs] at hI3
        generalize hxs : (bs.drop (n + 1)).take (lead (bs.getD n 0)) = xs at hI3
        have hxB : InB xs := hxs ▸ inB_take (inB_drop hB (n + 1)) _
        have hxl : xs.length = lead (bs.getD n 0) := by rw [← hxs, List.length_take, List.length_drop]; omega
        refine kst_listL (σ := FSt) (fun _ => (D, W.listOf ws.toArray 0) :: (V, W.listOf vs.toArray n9) :: (l, W.listOf us.toArray nn) :: news) (fun d => [(Str.ofString "number", .int d.v d.tv), (Str.ofString "more", .int (lead (bs.getD n 0)) tm), (Str.ofString "k", .int n tk0), (Str.ofString "found", .ref V), (Str.ofString "octets", .ref l)]) (fun _ => True)
          [] (fun pre d => d.v = num (bs.getD n 0) pre) ⟨num (bs.getD n 0) [], tv⟩ rfl (fun _ => .head _) hI3 F3 N3 trivial ?_ rfl ?_ ?_
        · exact List.forall_mem_cons.mpr ⟨hv, List.forall_mem_cons.mpr ⟨hm, List.forall_mem_cons.mpr ⟨rfl, List.forall_mem_cons.mpr ⟨rfl, List.forall_mem_cons.mpr ⟨rfl, List.forall_mem_nil _⟩⟩⟩⟩⟩
        · rintro ⟨v2, tv2⟩ pre post x t2 u2 h2 tk2 own e2 hx hoff _ hP F4 N4
          dsimp only [kstB] at hP F4 N4 ⊢
          subst hP
          have hxx := hxB x hx
          have hpl : pre.length ≤ 8 := by have := congrArg List.length e2; rw [List.length_append] at this; omega
          have hv2 := num_bound hx0.1 hx0.2 (xs := pre) (fun y hy => hxB y (by rw [e2]; exact List.mem_append_left _ hy)) hpl
          k_steps
          with_reducible rename Fr g1 _ _ _ => F6
          with_reducible rename News g1 _ _ _ => N6
          obtain ⟨v5, tv5, hv5, ev⟩ : ∃ v t, mapAt F6 (Str.ofString "number") = some (.int v t) ∧ v = num (bs.getD n 0) (pre ++ [x]) := by
            refine ⟨_, _, rfl, ?_⟩
            rw [num_snoc]
          refine kst_end (σ := FSt) ⟨v5, tv5⟩ F6 N6 (fun p hp => List.mem_append_left _ hp) (fun p hp => List.mem_append_right _ hp) rfl trivial ?_ ?_ ?_
          · exact List.forall_mem_cons.mpr ⟨hv5, List.forall_mem_cons.mpr ⟨rfl, List.forall_mem_cons.mpr ⟨rfl, List.forall_mem_cons.mpr ⟨rfl, List.forall_mem_cons.mpr ⟨rfl, List.forall_mem_nil _⟩⟩⟩⟩⟩
          · kst_same
          · exact ev
        · rintro ⟨v2, tv2⟩ u2 h2 tk2 _ hP F4 N4
          dsimp only [kstB] at hP F4 N4 ⊢
          subst hP
          have hv2 := num_bound hx0.1 hx0.2 hxB (by omega)
          k_steps
          · with_reducible rename Fr g1 L1 _ _ => F6
            with_reducible rename News g1 L1 _ _ => N6
            obtain ⟨tq, hq⟩ : ∃ t, mapAt F6 (Str.ofString "k") = some (.int ((n : Int) + ((lead (bs.getD n 0) : Int) + 1)) t) := ⟨_, rfl⟩
            with_reducible rename (num (bs.getD n 0) xs).fmod 2 ≠ 0 => hodd
            with_reducible rename IntsAre vs vals => hIv
            rw [dec_odd hodd, List.push_toArray] at N6
            obtain ⟨tz, N7⟩ : ∃ t, News g1 L1 _ ((D, W.listOf ws.toArray 0) :: (V, W.listOf (vs ++ [Value.int (dec (num (bs.getD n 0) xs)) t]).toArray (n9 + 1)) :: (l, W.listOf us.toArray nn) :: news) := ⟨_, N6⟩
            have hnx := read_next hn hk9 (by simpa using p3)
            rw [hxs] at hnx
            refine ksw_end (σ := RSt) ⟨(n : Int) + ((lead (bs.getD n 0) : Int) + 1), tq, vs ++ [.int (dec (num (bs.getD n 0) xs)) tz], vals ++ [dec (num (bs.getD n 0) xs)], n9 + 1⟩ F6 N7 ?_ (intsAre_snoc hIv _ _) ?_ ?_
              ⟨by show (0 : Int) ≤ (n : Int) + ((lead (bs.getD n 0) : Int) + 1); omega, by show (n : Int) + ((lead (bs.getD n 0) : Int) + 1) ≤ bs.length; omega, by simp; omega, ?_⟩ (by show bs.length - ((n : Int) + ((lead (bs.getD n 0) : Int) + 1)).toNat < bs.length - (n : Int).toNat; omega)
            · exact fun p hp => .tail _ hp
            · exact List.forall_mem_cons.mpr ⟨hq, List.forall_mem_cons.mpr ⟨rfl, List.forall_mem_cons.mpr ⟨rfl, List.forall_mem_nil _⟩⟩⟩
            · intro z h2 h3
              simp only [List.forall_mem_cons, List.not_mem_nil, false_implies, implies_true, and_true, ne_eq] at h2
              simp only [List.contains_cons, List.contains_nil, Bool.or_false, Bool.or_eq_false_iff, beq_eq_false_iff_ne, ne_eq] at h3
              simp [h2, h3, bindM]
            · have e5 : ((n : Int) + ((lead (bs.getD n 0) : Int) + 1)).toNat = n + lead (bs.getD n 0) + 1 := by omega
              show readL bs = (readL (bs.drop ((n : Int) + ((lead (bs.getD n 0) : Int) + 1)).toNat)).map _
              rw [e5]
              exact hnx
          · with_reducible rename Fr g1 L1 _ _ => F6
            with_reducible rename News g1 L1 _ _ => N6
            obtain ⟨tq, hq⟩ : ∃ t, mapAt F6 (Str.ofString "k") = some (.int ((n : Int) + ((lead (bs.getD n 0) : Int) + 1)) t) := ⟨_, rfl⟩
            with_reducible rename (num (bs.getD n 0) xs).fmod 2 = 0 => hodd
            with_reducible rename IntsAre vs vals => hIv
            rw [dec_even hodd, List.push_toArray] at N6
            obtain ⟨tz, N7⟩ : ∃ t, News g1 L1 _ ((D, W.listOf ws.toArray 0) :: (V, W.listOf (vs ++ [Value.int (dec (num (bs.getD n 0) xs)) t]).toArray (n9 + 1)) :: (l, W.listOf us.toArray nn) :: news) := ⟨_, N6⟩
            have hnx := read_next hn hk9 (by simpa using p3)
            rw [hxs] at hnx
            refine ksw_end (σ := RSt) ⟨(n : Int) + ((lead (bs.getD n 0) : Int) + 1), tq, vs ++ [.int (dec (num (bs.getD n 0) xs)) tz], vals ++ [dec (num (bs.getD n 0) xs)], n9 + 1⟩ F6 N7 ?_ (intsAre_snoc hIv _ _) ?_ ?_
              ⟨by show (0 : Int) ≤ (n : Int) + ((lead (bs.getD n 0) : Int) + 1); omega, by show (n : Int) + ((lead (bs.getD n 0) : Int) + 1) ≤ bs.length; omega, by simp; omega, ?_⟩ (by show bs.length - ((n : Int) + ((lead (bs.getD n 0) : Int) + 1)).toNat < bs.length - (n : Int).toNat; omega)
            · exact fun p hp => .tail _ hp
            · exact List.forall_mem_cons.mpr ⟨hq, List.forall_mem_cons.mpr ⟨rfl, List.forall_mem_cons.mpr ⟨rfl, List.forall_mem_nil _⟩⟩⟩
            · intro z h2 h3
              simp only [List.forall_mem_cons, List.not_mem_nil, false_implies, implies_true, and_true, ne_eq] at h2
              simp only [List.contains_cons, List.contains_nil, Bool.or_false, Bool.or_eq_false_iff, beq_eq_false_iff_ne, ne_eq] at h3
              simp [h2, h3, bindM]
            · have e5 : ((n : Int) + ((lead (bs.getD n 0) : Int) + 1)).toNat = n + lead (bs.getD n 0) + 1 := by omega
              show readL bs = (readL (bs.drop ((n : Int) + ((lead (bs.getD n 0) : Int) + 1)).toNat)).map _
              rw [e5]
              exact hnx
    · k_steps
      have hne3 : bs.drop n = [] := List.drop_eq_nil_of_le (by omega)
      have hr : readL bs = some vals := by rw [p3, Int.toNat_natCast, hne3, readL]; simp
      with_reducible rename Fr h₀ L _ _ => kF
      with_reducible rename News h₀ L _ _ => kN
      refine hret vals hr _ _ _ _ _ hI kF kN ?_
      exact List.forall_mem_cons.mpr ⟨lV.1, fun p hp => kst_ltOf lV.2 p hp⟩
end
end Mine
end
example : (0 : Nat) = 0 := by w_top off; first | walk1 | rfl
-- part CR
section
open PySem PySem.W PyProof.Rows PySem.Calls PySem.Spec
namespace Mine
section
variable {α : Type} {M : Model} {A : Around} {E : Value → Shared → Prop} {s : Shared} {env : Env}
theorem wpC_execs_nil {Q : Flow → Shared → Prop} (h : Q .next s) : wpC M A (execs [] env) Q E s := wpC_any (wpAny_execs_nil h)
theorem wpC_execs_cons {st : Stmt} {rest : List Stmt} {Q : Flow → Shared → Prop}
    (h : wpC M A (exec st env) (fun f s' => match f with | .next => wpC M A (execs rest env) Q E s' | f => Q f s') E s) : wpC M A (execs (st :: rest) env) Q E s := by
  rw [execs_cons]
  refine wpC_bind (wpC_mono h (fun f s' h' => ?_) fun _ _ x => x)
  cases f <;> first | exact h' | exact wpC_pure h'
/-- a statement by the library's rules, the rest in clean contexts -/
theorem wpC_stmt {st : Stmt} {rest : List Stmt} {Q : Flow → Shared → Prop}
    (h : wpAny M A (exec st env) (fun f s' => match f with | .next => wpC M A (execs rest env) Q E s' | f => Q f s') E s) : wpC M A (execs (st :: rest) env) Q E s := wpC_execs_cons (wpC_any h)
theorem wpC_If {test : Expr} {body orelse : List Stmt} {pos : Pos} {Q : Flow → Shared → Prop}
    (h : wpAny M A (isTrue test env (eval test env)) (fun b s₂ => if b = true then wpC M A (execs body env) Q E s₂ else wpC M A (execs orelse env) Q E s₂) E s) :
    wpC M A (exec (.If test body orelse pos) env) Q E s := by
  rw [exec_If]
  refine wpC_standAt (wpC_bind (wpC_any (wpAny_mono h (fun b s₂ h₂ => ?_) fun _ _ x => x)))
  cases b with
  | true => simpa using h₂
  | false => simpa using h₂
theorem wpC_Assign_Name {x : Str} {pos' pos : Pos} {value : Expr} {Q : Flow → Shared → Prop}
    (h : wpC M A (eval value env) (fun v s₁ => wpAny M A (storeName env x v) (fun _ => Q .next) E s₁) E s)
    (hs : swapsWith value (some (.Name x pos')) pos.line env = pure false := by rfl) : wpC M A (exec (.Assign [.Name x pos'] value pos) env) Q E s := by
  rw [exec_Assign_Name env x pos' value pos hs]
  refine wpC_standAt (wpC_bind (wpC_mono h (fun v s₁ h₁ => ?_) fun _ _ x => x))
  exact wpC_standAt (wpC_any (wpAny_bind (wpAny_bindName (wpAny_mono h₁ (fun _ _ h₂ => wpAny_pure h₂) fun _ _ x => x))))
theorem wpC_runOwn {c : Code} {h : Option Value} {Q : Flow → Shared → Prop}
    (hc : codeC M (A.mark h) c (fun r s' => match r with | .ok f => Q f s' | .error e => cameBackBy M A env E e s') s) (hnb : h ≠ some byPass := by intro x; cases x) :
    wpC M A (runOwn c env h) Q E s := by
  unfold runOwn
  refine wpC_onRaise (wpC_mono (wpC_run (E := cameBackBy M A env E) hc hnb) (fun _ _ x => x) fun e s' h' => ?_)
  exact wpC_any h'
theorem wpC_While {test : Expr} {body orelse : List Stmt} {pos : Pos} {Q : Flow → Shared → Prop}
    (h : codeC M A (.whileLoop test body orelse env) (fun r s' => match r with | .ok f => Q f s' | .error e => cameBackBy M A env E e s') s) :
    wpC M A (exec (.While test body orelse pos) env) Q E s := by
  rw [exec_While]; exact wpC_standAt (wpC_runOwn h)
theorem wpC_noted {m : Sem α} {Q : α → Shared → Prop} (h : wpC M A m Q (notedBy M A env E) s) : wpC M A (m.onRaise fun x => do noteFrame x env; theTreesLotGoes x) Q E s :=
  wpC_onRaise (wpC_mono h (fun _ _ q => q) fun _ _ hx => wpC_any (wpAny_bind (wpAny_mono hx (fun _ _ e => wpAny_theTreesLotGoes e) fun _ _ e => e)))
theorem wpC_Try {body orelse : List Stmt} {h₀ : ExceptHandler} {hs : List ExceptHandler} {pos : Pos} {Q : Flow → Shared → Prop}
    (h : wpC M A (execs body env) (fun f s₁ => match f with | .next => wpC M A (execs orelse env) Q E s₁ | f => Q f s₁)
      (fun e s₁ => wpAny M A (noteFrame e env) (fun _ s₂ => wpAny M A (setFlight e none) (fun _ s₃ => wpAny M A (handleBy e env (h₀ :: hs)) Q E s₃) E s₂) E s₁) s) :
    wpC M A (exec (.Try body (h₀ :: hs) orelse [] pos) env) Q E s := by
  rw [arm_exec_Try]
  refine wpC_standAt ?_
  unfold tryStmt
  simp only [List.isEmpty_nil, if_true, List.isEmpty_cons, Bool.false_and, Bool.false_eq_true, if_false]
  refine wpC_bind (wpC_attempt (wpC_mono h (fun f s₁ h₁ => ?_) fun e s₁ h₁ => ?_))
  · cases f <;> first | exact h₁ | exact wpC_pure h₁
  · exact wpC_any (wpAny_bind (wpAny_mono h₁ (fun _ _ h₂ => wpAny_bind h₂) fun _ _ x => x))
theorem wpC_For {target iter : Expr} {body orelse : List Stmt} {pos : Pos} {Q : Flow → Shared → Prop}
    (h : wpAny M A (eval iter env) (fun x s₁ => wpAny M A (pyIter x) (fun it s₂ =>
      codeC M A (.forLoop target it body orelse env) (fun r s' => match r with | .ok f => Q f s' | .error e => cameBackBy M A env E e s') s₂) E s₁) E s)
    (hs : ∀ x, foldedSetIterable iter env x = pure x := by intro _; rfl) :
    wpC M A (exec (.For target iter body orelse pos) env) Q E s := by
  rw [exec_For]
  refine wpC_standAt (wpC_then (wpAny_mono h (fun x s₁ h₁ => ?_) fun _ _ x => x))
  refine wpC_then (wpAny_of_eq (hs x) ?_)
  refine wpC_standAt (wpC_then (wpAny_holding (wpAny_mono h₁ (fun it s₂ h₂ => wpC_runOwn h₂) fun _ _ x => x)))
theorem wpC_Call {func : Expr} {args : List Expr} {pos : Pos} {Q : Value → Shared → Prop}
    (h : wpAny M A (eval func env) (fun f s₁ => wpC M A (callWith pos f [] (backTo pos (starEach args env)) []) Q E s₁) E s)
    (he : eval (.Call func args [] pos) env = (do callWith pos (← eval func env) [] (backTo pos (starEach args env)) (backToKw pos (keywordEach [] env))) := by rfl) :
    wpC M A (eval (.Call func args [] pos) env) Q E s := by
  rw [he]; exact wpC_then h
theorem wpC_MethodCall {o : Expr} {name : Str} {apos pos : Pos} {args : List Expr} {pl : Sem Bool} {Q : Value → Shared → Prop}
    (h : wpAny M A (eval o env) (fun ov s₁ => wpAny M A (getMethod ov name pl) (fun fx s₂ => wpC M A (callWith pos fx.1 fx.2 (backTo pos (starEach args env)) []) Q E s₂) E s₁) E s)
    (he : eval (.Call (.Attribute o name apos) args [] pos) env = (do
      let ov ← eval o env
      standAt apos.atName
      let (f, first) ← holding [ov] (getMethod ov name pl)
      callWith pos f first (backTo pos (starEach args env)) []) := by rfl) :
    wpC M A (eval (.Call (.Attribute o name apos) args [] pos) env) Q E s := by
  rw [he]
  refine wpC_then (wpAny_mono h (fun ov s₁ h₁ => wpC_standAt (wpC_then (wpAny_holding (wpAny_mono h₁ (fun fx s₂ h₂ => ?_) fun _ _ x => x)))) fun _ _ x => x)
  exact h₂
theorem wpC_spliced1 {x : Sem Value} {Q : List Value → Shared → Prop} (h : wpC M A x (fun v s₁ => Q [v] s₁) E s) : wpC M A (spliced [(false, x)]) Q E s := by
  rw [spliced]
  refine wpC_bind (wpC_mono h (fun v s₁ h₁ => ?_) fun _ _ x => x)
  simp only [Bool.false_eq_true, if_false]
  exact wpC_any (wpAny_bind (wpAny_pure (wpAny_bind (wpAny_holding (Calls.spliced_nil (wpAny_pure h₁))))))
theorem wpC_args1 {e : Expr} {pos : Pos} {Q : List Value → Shared → Prop} (h : wpC M A (eval e env) (fun v s₁ => Q [v] s₁) E s)
    (he : starEach [e] env = [(false, eval e env)] := by rfl) : wpC M A (spliced (backTo pos (starEach [e] env))) Q E s := by
  rw [he]; exact wpC_spliced1 h
theorem evalArgsC {f : Value} {x : Sem Value} {rest : List (Bool × Sem Value)} {Q : Args → Shared → Prop}
    (h : wpC M A (spliced ((false, x) :: rest)) (fun vs s' => Q ⟨vs, []⟩ s') E s) : wpC M A (evalArgs f true ((false, x) :: rest) []) Q E s := by
  unfold evalArgs
  show wpC M A (spliced ((false, x) :: rest) >>= _) Q E s
  refine wpC_bind (wpC_mono h (fun vs s' h' => ?_) fun _ _ x => x)
  refine wpC_holding ?_
  exact wpC_any (wpAny_bind (wpAny_pure (wpAny_bind (wpAny_pure (wpAny_pure h')))))
theorem tailC {t : Sem Value} {Q : Value → Shared → Prop} (h : wpC M A t Q E s) : wpC M A (t >>= fun r => holding [r] point >>= fun _ => pure r) Q E s :=
  wpC_bind (wpC_mono h (fun _ _ hr => wpC_any (wpAny_bind (wpAny_holding (wpAny_point (wpAny_pure hr))))) fun _ _ x => x)
theorem callWithC_builtin {pos : Pos} {id : String} {first : List Value} {args : List (Bool × Sem Value)} {Q : Value → Shared → Prop} (hplain : args.any (·.1) = false)
    (h : wpC M A (evalArgs (.builtin id) true args []) (fun a s₁ => wpC M A (call (.builtin id) (first ++ a.pos) a.kw) Q E s₁) E s) :
    wpC M A (callWith pos (.builtin id) first args []) Q E s := by
  unfold callWith
  refine wpC_bind (wpC_holding (wpC_mono h (fun a s₁ h₁ => wpC_standAt ?_) fun _ _ x => x))
  simp only [hplain, List.any_nil, Bool.or_false]
  exact wpC_then (wpAny_pure (tailC h₁))
theorem callWithC_type {pos : Pos} {T : String} {first : List Value} {args : List (Bool × Sem Value)} {Q : Value → Shared → Prop} (hplain : args.any (·.1) = false)
    (h : wpC M A (evalArgs (.type T) true args []) (fun a s₁ => wpC M A (call (.type T) (first ++ a.pos) a.kw) Q E s₁) E s) :
    wpC M A (callWith pos (.type T) first args []) Q E s := by
  unfold callWith
  refine wpC_bind (wpC_holding (wpC_mono h (fun a s₁ h₁ => wpC_standAt ?_) fun _ _ x => x))
  simp only [hplain, List.any_nil, Bool.or_false]
  exact wpC_then (wpAny_pure (tailC h₁))
theorem callWithC_function {pos : Pos} {a : Addr} {o : Obj} {fd : FuncData} {first : List Value} {args : List (Bool × Sem Value)} {Q : Value → Shared → Prop} (hplain : args.any (·.1) = false)
    (h : wpC M A (evalArgs (.ref a) true args []) (fun x s₁ => (s₁.heap.get? a = some o ∧ o.data = .func fd) ∧ wpC M A (call (.ref a) (first ++ x.pos) x.kw) Q E s₁) E s) :
    wpC M A (callWith pos (.ref a) first args []) Q E s := by
  unfold callWith
  refine wpC_bind (wpC_holding (wpC_mono h (fun x s₁ h₁ => wpC_standAt ?_) fun _ _ x => x))
  simp only [hplain, List.any_nil, Bool.or_false]
  refine wpC_then (m := keeperOf (.ref a)) ?_
  unfold keeperOf
  refine wpAny_bind (wpAny_load h₁.1.1 ?_)
  rw [h₁.1.2]
  refine wpAny_pure ?_
  have fin : ∀ m : Value, wpC M A (if args.length + 2 * ([] : List (Option Str × Sem Value)).length > 30 then call (.ref a) (first ++ x.pos) x.kw >>= fun r => holding [r] point >>= fun _ => pure r
      else callMarked m (.ref a) (first ++ x.pos) x.kw >>= fun r => holding [r] point >>= fun _ => pure r) Q E s₁ := fun m => by
    split
    · exact tailC h₁.2
    · refine tailC ?_
      unfold callMarked
      exact wpC_keep h₁.2
  split <;> first
    | exact tailC h₁.2
    | exact fin _
    | (refine tailC ?_; unfold callMarked; exact wpC_keep h₁.2)
    | (refine tailC ?_; exact wpC_operate h₁.2)
end
section
variable {prog : Program} {w : World} {A : Around} {E : Value → Shared → Prop} {R : Result → Shared → Prop} {s : Shared} {env : Env}
theorem wpC_Expr_any {e : Expr} {pos : Pos} {Q : Flow → Shared → Prop} (h : wpC (model prog w) A (eval e env) (fun _ => Q .next) E s)
    (hi : interactive env = false := by rfl) (hs : swapsWith e none pos.line env = pure false := by rfl) : wpC (model prog w) A (exec (.Expr e pos) env) Q E s := by
  rw [exec_Expr env e pos hi hs]
  exact wpC_standAt (wpC_bind (wpC_mono h (fun v s' h' => wpC_any (wpAny_dropValue h')) fun _ _ x => x))
theorem codeC_whileLoop {test : Expr} {body orelse : List Stmt} (I : Nat → Shared → Prop)
    (turn : ∀ n s, I n s →
      wpAny (model prog w) A (isTrue test env (eval test env)) (fun b s₂ =>
        if b = true then wpC (model prog w) A (execs body env) (fun f s₃ => match f with
            | .next | .cont => ∃ m, m < n ∧ I m s₃
            | .brk => R (.ok .next) s₃
            | .ret v => R (.ok (.ret v)) s₃) (notedBy (model prog w) A env fun e s' => R (.error e) s') s₂
        else wpC (model prog w) A (execs orelse env) (fun f s₃ => R (.ok f) s₃) (notedBy (model prog w) A env fun e s' => R (.error e) s') s₂)
        (notedBy (model prog w) A env fun e s' => R (.error e) s') s)
    (n : Nat) (h : I n s) : codeC (model prog w) A (.whileLoop test body orelse env) R s := by
  refine codeC_loop rfl rfl I (fun n s hI => ?_) n h
  show wpC _ A ((whileTurn test body orelse env).onRaise (fun x => do noteFrame x env; theTreesLotGoes x)) _ _ s
  refine wpC_noted ?_
  simp only [whileTurn]
  refine wpC_then (wpAny_mono (turn n s hI) (fun b s₂ h₂ => ?_) fun _ _ h' => h')
  cases b with
  | false =>
    simp only [Bool.false_eq_true, if_false] at h₂ ⊢
    exact wpC_bind (wpC_mono h₂ (fun f s₃ h₃ => wpC_pure h₃) fun _ _ h' => h')
  | true =>
    simp only [if_true] at h₂ ⊢
    refine wpC_bind (wpC_mono h₂ (fun f s₃ h₃ => ?_) fun _ _ h' => h')
    cases f with
    | next => exact wpC_pure ⟨rfl, h₃⟩
    | cont => exact wpC_pure ⟨rfl, h₃⟩
    | brk => exact wpC_pure h₃
    | ret v => exact wpC_pure h₃
theorem kswC_while {σ : Type} {h₀ : Heap} {L : Addr} {test : Expr} {body : List Stmt} {pos : Pos} {Q : Flow → Shared → Prop} {m₀ : Str → Option Value} (Led : σ → List (Addr × Obj)) (ps : σ → List (Str × Value)) (Facts : σ → Prop) (stored : List Str) (P : σ → Prop) (μ : σ → Nat) (c₀ : σ)
    (F : Fr h₀ L s.heap m₀) (N : News h₀ L s.heap (Led c₀)) (hf : Facts c₀) (hk : ∀ p ∈ ps c₀, m₀ p.1 = some p.2) (hp : P c₀)
    (turn : ∀ (c : σ) (u : Str → Option Value) h tk, Facts c → P c → Fr h₀ L h (kstB (fun z => if stored.contains z then u z else m₀ z) (ps c)) → News h₀ L h (Led c) →
      wpAny (model prog w) A (isTrue test env (eval test env)) (fun b s₂ =>
        if b = true then wpC (model prog w) A (execs body env) (KswPost h₀ L s Led ps Facts stored m₀ P μ Q c) E s₂ else Q .next s₂) E { s with heap := h, toks := tk })
    (hE : PassesOwn (model prog w) A env E := by passes_own) :
    wpC (model prog w) A (exec (.While test body [] pos) env) Q E s := by
  refine wpC_While (codeC_whileLoop (fun n s' => ∃ (h : Heap) (tk : Nat) (c : σ) (m : Str → Option Value), s' = { s with heap := h, toks := tk } ∧ μ c = n ∧ Fr h₀ L h m ∧ News h₀ L h (Led c) ∧ Facts c ∧ (∀ p ∈ ps c, m p.1 = some p.2) ∧ (∀ z, (∀ p ∈ ps c, z ≠ p.1) → stored.contains z = false → m z = m₀ z) ∧ P c) ?_ (μ c₀)
    ⟨s.heap, s.toks, c₀, m₀, rfl, rfl, F, N, hf, hk, fun _ _ _ => rfl, hp⟩)
  rintro n s' ⟨h, tk, c, m₁, rfl, hsz, F₁, N₁, hf', h1, h2, hp'⟩
  rw [← hsz]
  refine wpAny_mono (turn c m₁ h tk hf' hp' (ksw_fr h1 h2 F₁) N₁) (fun b s₂ p => ?_) hE
  cases b with
  | false =>
    simp only [Bool.false_eq_true, if_false] at p ⊢
    exact wpC_execs_nil p
  | true =>
    simp only [if_true] at p ⊢
    refine wpC_mono p (fun f s₃ q => ?_) hE
    cases f with
    | ret v => exact q
    | brk => exact q
    | next =>
      obtain ⟨c', h', tk', m', news', rfl, F', N', hn, hf9, hk9, hr9, hp9, hm9⟩ := q
      exact ⟨μ c', hm9, h', tk', c', m', rfl, rfl, F', fun p hp => N' p (hn p hp), hf9, hk9, hr9, hp9⟩
    | cont =>
      obtain ⟨c', h', tk', m', news', rfl, F', N', hn, hf9, hk9, hr9, hp9, hm9⟩ := q
      exact ⟨μ c', hm9, h', tk', c', m', rfl, rfl, F', fun p hp => N' p (hn p hp), hf9, hk9, hr9, hp9⟩
theorem codeC_loop' {M : Model} {c : Code} (hcl : cleanCode c = true) (hq : c.quiet = true) (I : Nat → Shared → Prop)
    (turn : ∀ n s, I n s → wpC M (A.under c) (M.den c)
      (fun fin s' => match fin with | .done f => R (.ok f) s' | .again c' => (c' = c ∧ ∃ m, m < n ∧ I m s') ∨ (c'.quiet = true ∧ codeC M A c' R s')) (fun e s' => R (.error e) s') s)
    (n : Nat) (h : I n s) : codeC M A c R s := by
  induction n using Nat.strongRecOn generalizing s with
  | ind n ih =>
    refine codeC_of_tree hcl (wpC_mono (turn n s h) (fun fin s' hf => ?_) fun _ _ h' => h')
    cases fin with
    | done f => exact hf
    | again c' =>
      rcases hf with ⟨rfl, m, hm, hI⟩ | hf
      · exact ⟨hq, ih m hm hI⟩
      · exact hf
theorem codeC_forLoop {target : Expr} {it : Value} {body : List Stmt} (I : Nat → Shared → Prop)
    (turn : ∀ n s, I n s → wpAny (model prog w) A (pyNext it) (fun r s₁ => match r with
      | none => R (.ok .next) s₁
      | some v => wpAny (model prog w) A (assign target env v) (fun _ s₂ => wpC (model prog w) A (execs body env) (fun f s₃ => match f with
          | .next | .cont => ∃ m, m < n ∧ I m s₃
          | .brk => R (.ok .next) s₃
          | .ret v => R (.ok (.ret v)) s₃) (notedBy (model prog w) A env fun e s' => R (.error e) s') s₂) (notedBy (model prog w) A env fun e s' => R (.error e) s') s₁) (notedBy (model prog w) A env fun e s' => R (.error e) s') s)
    (n : Nat) (h : I n s) (ht : ∀ v, letOwnedTupleGo target it v = pure () := by intro _; rfl) : codeC (model prog w) A (.forLoop target it body [] env) R s := by
  refine codeC_loop' rfl rfl I (fun n s hI => ?_) n h
  show wpC _ _ ((forTurn target it body [] env).onRaise (fun x => do noteFrame x env; theTreesLotGoes x)) _ _ s
  refine wpC_noted ?_
  simp only [forTurn]
  refine wpC_standAt (wpC_then (wpAny_onRaise (wpAny_mono (turn n s hI) (fun r s₁ h₁ => ?_) fun _ _ h' => wpAny_standAt h')))
  cases r with
  | none => exact wpC_pure (.inr ⟨rfl, codeC_any (codeAny_block (wpAny_execs_nil h₁))⟩)
  | some v =>
    refine wpC_then (wpAny_of_eq (ht v) ?_)
    refine wpC_then (wpAny_mono h₁ (fun _ s₂ h₂ => wpC_bind (wpC_mono h₂ (fun f s₃ h₃ => ?_) fun _ _ h' => h')) fun _ _ h' => h')
    cases f with
    | next => exact wpC_pure (.inl ⟨rfl, h₃⟩)
    | cont => exact wpC_pure (.inl ⟨rfl, h₃⟩)
    | brk => exact wpC_pure h₃
    | ret v => exact wpC_pure h₃
theorem codeC_func {body : List Stmt}
    (h : wpC (model prog w) (A.deeper env) (execs body env) (fun f s' => R (.ok (.ret (match f with | .ret v => v | _ => .none))) s')
      (fun e s' => wpAny (model prog w) (A.deeper env) (leaving env e) (fun _ s'' => R (.error e) s'') (fun e' s'' => R (.error e') s'') s') s) :
    codeC (model prog w) A (.func body env) R s := by
  refine codeC_of_tree rfl ?_
  show wpC _ (A.deeper env) (do point; match ← (execs body env).onRaise (leaving env) with | .ret v => ret v | _ => ret .none) _ _ s
  refine wpC_then (wpAny_point (wpC_bind (wpC_onRaise (wpC_mono h (fun f s' h' => ?_) fun _ _ h' => wpC_any h'))))
  cases f <;> exact wpC_pure h'
theorem codeC_call_function {a : Addr} {args : Args} {o : Obj} {fd : FuncData} {body : List Stmt} (hroom : A.depth < recursionLimit)
    (ho : s.heap.get? a = some o)
    (hd' : o.data = .func fd) (hco : fd.scope.isCoroutine = false) (hgen : fd.scope.isGenerator = false) (hbody : fd.body = .stmts body) (hcd : s.heap.CodeRec fd.code fd.qualname)
    (h : wpAny (model prog w) A.in1 (bindArgs fd args) (fun binds s₁ =>
      wpAny (model prog w) A.in1 (newFunctionEnv fd.scope fd.globals fd.closure binds (fd.qualname ++ ".<locals>.") (some a) fd.code none fd.builtins)
        (fun env s₂ => s₂.heap.NoLimit ∧ codeC (model prog w) A (.func body env) R s₂) (fun e s' => R (.error e) s') s₁) (fun e s' => R (.error e) s') s) :
    codeC (model prog w) A (.call (.ref a) args) R s := by
  refine codeC_of_tree rfl ?_
  show wpC _ A.in1 (callAny (.ref a) args) _ _ s
  simp only [callAny]
  refine wpC_any (wpAny_bind (wpAny_load ho ?_))
  obtain ⟨c, oc, vs, tq, hc, hoc, hdc, hq⟩ := hcd
  simp only [hd', callFunction, hco, hgen, hbody, hc]
  rw [hc] at h
  refine wpAny_bind (m := field (.ref c) 1) (wpAny_field hoc hdc hq (wpAny_bind (wpAny_pure ?_)))
  exact wpAny_bind (wpAny_mono h (fun binds s₁ h₁ => wpAny_bind (wpAny_mono h₁ (fun env s₂ h₂ => wpAny_bind (wpAny_enterFrame h₂.1 hroom
    (wpAny_pure (And.intro rfl h₂.2)))) fun _ _ h' => h')) fun _ _ h' => h')
theorem codeC_call_builtin {id : String} {args : Args} {b : Builtin} (hcl : heldIds.contains id = false) (hq : plainId id = true) (hb : entryFor table id = some b)
    (h : wpAny (model prog w) A.in1 (checkBuiltinCall id args) (fun _ s₁ => wpC (model prog w) A.in1 (b args)
      (fun fin s' => match fin with | .done f => R (.ok f) s' | .again c' => c'.quiet = true ∧ codeC (model prog w) A c' R s') (fun e s' => R (.error e) s') s₁)
      (fun e s' => R (.error e) s') s) : codeC (model prog w) A (.call (.builtin id) args) R s := by
  refine codeC_of_tree rfl ?_
  show wpC _ A.in1 (do checkBuiltinCall id args; again (.builtin id args)) _ _ s
  refine wpC_then (wpAny_mono h (fun _ s₁ h₁ => wpC_pure (And.intro (plainId_quiet hq args) (codeC_of_tree (by show (!heldIds.contains id) = true; rw [hcl]; rfl) ?_))) fun _ _ h' => h')
  show wpC _ _ (match entryFor table id with | some b => b args | none => unsupported ((withoutEnding? id "#data").getD id)) _ _ s₁
  rw [hb, Around.under_plainId hq args]; exact h₁
end
end Mine
end
example : (0 : Nat) = 0 := by w_top off; first | walk1 | rfl
-- part CR2
section
open PySem PySem.W PyProof.Rows PySem.Calls PySem.Spec
namespace Mine
section
variable {prog : Program} {w : World} {A₀ A : Around} {s : Shared} {base h₀ : Heap} {outer : List Env} {L : Addr} {m : Str → Option Value} {env : Env} {news : List (Addr × Obj)} {K : Frag}
  {p : Program} {loose : List Str} {mean : ExcName → Option Value} {mg mb : Str → Option Value}
  {R : Result → Shared → Prop} {name qual : Str} {params : Arguments} {body : List Stmt} {scope : Scope} {dV kV doc pm cdv ct oc : Value} {an od : Option Addr} {osl : Array (Option Value)} {f : Addr} {args : Args} {binds : List (Str × Value)}
/-- a def without cells is entered, in clean contexts -/
theorem code_defC (B : Below A₀ base outer h₀) (F : Fr h₀ L s.heap m) (X₀ : K.In h₀) (N : News h₀ L s.heap news) (T : Top p loose mean mg mb h₀) (hA : A.frames = some (env :: outer)) (hf : env.frame = some L) (hke : env.scope.kind = .function)
    (ho : K.lookup f = some ⟨oc, od, .func (fnOf name qual params body scope dV kV doc pm an cdv ct), osl⟩) (hcd : codeIn K cdv qual = true) (hroom : A.depth < recursionLimit)
    (hbind : BindsTo s (fnOf name qual params body scope dV kV doc pm an cdv ct) args binds) (hloc : ∀ y ∈ binds, scope.names.lookup y.1 = some .local)
    (h : ∀ g L' h₁, Fr h₀ L g m → Fr g L' h₁ (fun y => binds.reverse.lookup y) → News g L' h₁ news → Below A base (env :: outer) g → K.In g → Top p loose mean mg mb g →
      wpC (model prog w) (A.deeper (envOf qual scope L' f cdv)) (execs body (envOf qual scope L' f cdv))
        (fun fl s' => LeaveK h₀ L m g R (match fl with | .ret v => v | _ => .none) s')
        (fun e s' => wpAny (model prog w) (A.deeper (envOf qual scope L' f cdv)) (leaving (envOf qual scope L' f cdv) e) (fun _ s'' => R (.error e) s'') (fun e' s'' => R (.error e') s'') s')
        { s with heap := h₁, toks := s.toks + binds.length })
    (hco : scope.isCoroutine = false) (hgen : scope.isGenerator = false) (hk : scope.kind = .function)
    (hcell : ∀ x ∈ scope.names, x.2 ≠ .cell) : codeC (model prog w) A (.call (.ref f) args) R s := by
  obtain ⟨FG, BG, st, lv⟩ := groundX (R := R) B F N hA hf hke
  refine codeC_call_function (fd := fnOf name qual params body scope dV kV doc pm an cdv ct) (body := body) hroom ((X₀.keeps F.keep) _ _ ho) rfl hco hgen rfl (codeRec_of (X₀.keeps F.keep) hcd) (hbind _ _ _ _ ?_)
  refine wpAny_newFunctionEnv hcell hloc (fun h₁ hns hsb => ⟨(T.nolimit.keeps F.keep).fresh _ hsb, codeC_func ?_⟩) hk
  have hk₁ : ∀ b o, s.heap.get? b = some o → h₁.get? b = some o := fun b o e => hsb.extBut b o (Nat.ne_of_lt (Heap.lt_size e)) (Heap.get?_push_of_some _ e)
  exact wpC_mono (h _ s.heap.objs.size h₁ FG ⟨hns, fun b o e => hk₁ b o (of_hideAll _ e), Nat.le_of_eq (hideAll_size _ _)⟩
    (fun p hp => ⟨hk₁ _ _ (N p hp).1, Nat.ne_of_lt (Heap.lt_size (N p hp).1), hideAll_none _ (List.mem_map_of_mem hp)⟩) BG (X₀.keeps st) (T.keeps st)) (fun fl s' hl => lv _ _ hl) fun _ _ y => y
/-- .. a def with cells -/
theorem callX_cellsC {fo : Obj} (B : Below A₀ base outer h₀) (F : Fr h₀ L s.heap m) (N : News h₀ L s.heap news) (hlim : h₀.NoLimit) (hA : A.frames = some (env :: outer)) (hf : env.frame = some L) (hke : env.scope.kind = .function)
    (ho : s.heap.get? f = some fo) (hd : fo.data = .func (fnX name qual params body scope [] dV kV doc pm an cdv ct)) (hcd : s.heap.CodeRec cdv qual) (hroom : A.depth < recursionLimit)
    (hbind : BindsTo s (fnX name qual params body scope [] dV kV doc pm an cdv ct) args binds)
    (hkind : ∀ n, ∀ x ∈ binds, scope.names.lookup x.1 = some .local ∨ (scope.names.lookup x.1 = some .cell ∧ ((cellsFrom n scope.names []).lookup x.1).isSome = true))
    (hnd : ((cellsFrom 0 scope.names []).map (·.1)).Nodup)
    (h : ∀ g L' h₁ tk cells, Fr h₀ L g m → Fr g L' h₁ (bindL (envOfC qual scope L' f cdv).kindOf binds fun _ => none) → News g L' h₁ (cells ++ news) →
      CellsAre (bindC (envOfC qual scope L' f cdv).kindOf binds fun _ => none) (cellsFrom (L' + 1) scope.names []) cells → Below A base (env :: outer) g → h₀.StaysIn g → (∀ p ∈ news, p.1 < L') →
      wpC (model prog w) (A.deeper (envOfC qual scope L' f cdv)) (execs body (envOfC qual scope L' f cdv))
        (fun fl s' => LeaveK h₀ L m g R (match fl with | .ret v => v | _ => .none) s')
        (fun e s' => wpAny (model prog w) (A.deeper (envOfC qual scope L' f cdv)) (leaving (envOfC qual scope L' f cdv) e) (fun _ s'' => R (.error e) s'') (fun e' s'' => R (.error e') s'') s')
        { s with heap := h₁, toks := tk })
    (hco : scope.isCoroutine = false := by rfl) (hgen : scope.isGenerator = false := by rfl) (hk : scope.kind = .function := by rfl) : codeC (model prog w) A (.call (.ref f) args) R s := by
  obtain ⟨FG, BG, st, lv⟩ := groundX (R := R) B F N hA hf hke
  refine codeC_call_function hroom ho hd hco hgen rfl hcd (hbind _ _ _ _ ?_)
  refine wpAny_newFunctionEnv_cells hk (hkind _) fun env' he s' x => ?_
  subst he
  refine ⟨(hlim.keeps F.keep).keeps x.toInCall.keep, codeC_func ?_⟩
  obtain ⟨h₁, tk, rfl, _⟩ := x.done
  have hk₁ := x.toInCall.keep
  obtain ⟨cells, NC, Y⟩ := Cl.news (h₀ := s.heap) (Nat.le_refl _) fun n c hm => ⟨x.cell n c (lookup_of_mem_nodup (cellsFrom_names scope.names 0 (s.heap.objs.size + 1) [] [] rfl ▸ hnd) hm), x.above n c hm⟩
  refine wpC_mono (h _ s.heap.objs.size h₁ tk cells FG ⟨x.toInCall.ns, fun b o e => hk₁ b o (of_hideAll _ e), Nat.le_of_eq (hideAll_size _ _)⟩ (fun p hp => ?_) Y BG st (fun p hp => Heap.lt_size (N p hp).1)) (fun fl s' hl => lv _ _ hl) fun _ _ y => y
  rcases List.mem_append.mp hp with hp | hp
  · refine ⟨(NC p hp).1, (NC p hp).2.1, ?_⟩
    cases q : (hideAll s.heap (news.map (·.1))).get? p.1 with
    | none => rfl
    | some o => have := of_hideAll _ q; rw [(NC p hp).2.2] at this; cases this
  · exact ⟨hk₁ _ _ (N p hp).1, Nat.ne_of_lt (Heap.lt_size (N p hp).1), hideAll_none _ (List.mem_map_of_mem hp)⟩
end
section
variable {prog : Program} {w : World} {A : Around} {E : Value → Shared → Prop} {Q : Flow → Shared → Prop} {s : Shared} {env : Env} {h₀ : Heap} {x : Str} {body : List Stmt}
theorem take_at {ns : List Int} {i : Nat} (h : i < ns.length) : ns.take (i + 1) = ns.take i ++ [ns[i]] := by
  rw [List.take_add_one, List.getElem?_eq_getElem h]
  rfl
theorem split_at {ns : List Int} {i : Nat} (h : i < ns.length) : ns = ns.take i ++ ns[i] :: ns.drop (i + 1) := by
  have ht := List.take_append_drop (i + 1) ns
  rw [take_at h, List.append_assoc] at ht
  exact ht.symm
theorem item_at {vs : List Value} {ns : List Int} {i : Nat} {v : Value} (hi : IntsAre vs ns) (h : i < ns.length) (hv : vs.toArray[i]? = some v) : ∃ t, v = .int ns[i] t := by
  obtain ⟨t, hxv⟩ := hi.get i ns[i] (by rw [List.getElem?_eq_getElem h])
  rw [List.getElem?_toArray, hxv] at hv
  exact ⟨t, (Option.some.inj hv).symm⟩
set_option maxHeartbeats 1000000 in
/-- a loop over a list of ints that lies in the ledger, in clean contexts -/
theorem forC_listL {σ : Type} {px pos : Pos} {iter : Expr} {l : Addr} {vs : List Value} {ns : List Int} {nn : Nat} {m₀ : Str → Option Value} (Led : σ → List (Addr × Obj)) (ps : σ → List (Str × Value)) (Facts : σ → Prop) (stored : List Str) (P : List Int → σ → Prop) (c₀ : σ)
    (hx : env.kindOf x = some .local) (hp' : (env.scope.kind == .class || (env.scope.kind == .module && env.locals != env.globals)) = false) (hh : A.handled = none) (hl : ∀ c : σ, (l, listOf vs.toArray nn) ∈ Led c) (hled : ∀ c : σ, (Led c).map (·.1) = (Led c₀).map (·.1)) (hi : IntsAre vs ns)
    (he : ∀ Q' : Value → Shared → Prop, (∀ h tk, Fr h₀ env.locals h m₀ → News h₀ env.locals h (Led c₀) → Q' (.ref l) { s with heap := h, toks := tk }) → wpAny (model prog w) A (eval iter env) Q' E s)
    (hf : Facts c₀) (hk : ∀ p ∈ ps c₀, m₀ p.1 = some p.2) (hp : P [] c₀)
    (turn : ∀ (c : σ) pre post n t (u : Str → Option Value) h tk I o, ns = pre ++ n :: post → (∀ p ∈ Led c, I ≠ p.1) → Facts c → P pre c →
      Fr h₀ env.locals h (fun y => if y = x then some (.int n t) else kstB (fun z => if stored.contains z then u z else m₀ z) (ps c) y) → News h₀ env.locals h (Led c ++ [(I, o)]) →
      wpC (model prog w) A (execs body env) (fun f s₂ => match f with
        | .ret v => Q (.ret v) s₂
        | .brk => Q .next s₂
        | _ => ∃ (c' : σ) (h' : Heap) (tk' : Nat) (m' : Str → Option Value) (news' : List (Addr × Obj)), s₂ = { s with heap := h', toks := tk' } ∧ Fr h₀ env.locals h' m' ∧ News h₀ env.locals h' news' ∧ (∀ p ∈ Led c', p ∈ news') ∧ (I, o) ∈ news' ∧ Facts c' ∧ (∀ p ∈ ps c', m' p.1 = some p.2) ∧ (∀ z, z ≠ x → (∀ p ∈ ps c', z ≠ p.1) → stored.contains z = false → m' z = m₀ z) ∧ P (pre ++ [n]) c') E { s with heap := h, toks := tk })
    (done : ∀ (c : σ) (u : Str → Option Value) h tk, Facts c → P ns c → Fr h₀ env.locals h (fun y => if y = x then u y else kstB (fun z => if stored.contains z then u z else m₀ z) (ps c) y) → News h₀ env.locals h (Led c) → Q .next { s with heap := h, toks := tk })
    (hs : ∀ x, foldedSetIterable iter env x = pure x := by intro _; rfl)
    (hE : PassesOwn (model prog w) A env E := by passes_own) :
    wpC (model prog w) A (exec (.For (.Name x px) iter body [] pos) env) Q E s := by
  refine wpC_For (he _ fun h1 tk1 F N => ?_) hs
  have hol : h1.get? l = some (listOf vs.toArray nn) := (N _ (hl c₀)).1
  have hls : h1.IsList l vs.toArray := ⟨_, hol, rfl, nn, rfl⟩
  have hne : l ≠ h1.objs.size := Nat.ne_of_lt (Heap.lt_size hol)
  refine wpAny_pyIter_list (s := { s with heap := h1, toks := tk1 }) hls ?_
  have W := Walks.list (prog := prog) (w := w) hh h1.objs.size l hne vs.toArray
  have hlen : vs.toArray.size = ns.length := by rw [List.size_toArray, hi.length]
  rw [hlen] at W
  have hIL : h1.objs.size ≠ env.locals := fun e => absurd F.ns.lt (e ▸ Nat.lt_irrefl _)
  have hIh : h₀.get? h1.objs.size = none := next_is_new F
  have hIn : ∀ c : σ, ∀ p ∈ Led c, h1.objs.size ≠ p.1 := fun c p hp e => by
    have : p.1 ∈ (Led c₀).map (·.1) := by rw [← hled c]; exact List.mem_map_of_mem hp
    obtain ⟨q, hq, e2⟩ := List.mem_map.mp this
    exact absurd (Heap.lt_size (N q hq).1) (by rw [e2, ← e]; exact Nat.lt_irrefl _)
  have old : ∀ b o, h₀.get? b = some o → b ∉ [h1.objs.size] := fun b o e hb => by rw [List.mem_singleton.mp hb, hIh] at e; cases e
  refine codeC_forLoop
    (fun k s' => ∃ (h' : Heap) (tk : Nat) (c : σ) (m' : Str → Option Value) (i : Nat), s' = { s with heap := h', toks := tk } ∧ h'.IsListIter h1.objs.size l i ∧ Fr h₀ env.locals h' m' ∧ News h₀ env.locals h' (Led c) ∧ Facts c ∧ (∀ p ∈ ps c, m' p.1 = some p.2) ∧ (∀ z, z ≠ x → (∀ p ∈ ps c, z ≠ p.1) → stored.contains z = false → m' z = m₀ z) ∧ P (ns.take i) c ∧ i ≤ ns.length ∧ k = ns.length + 1 - i) ?_ (ns.length + 1)
    ⟨_, _, c₀, m₀, 0, rfl, ⟨_, Heap.get?_push_size _ rfl, rfl, rfl⟩, F.push _, (fun p hp => ⟨Heap.get?_push_of_some _ (N p hp).1, (N p hp).2⟩), hf, hk, fun _ _ _ _ => rfl, by rw [List.take_zero]; exact hp, Nat.zero_le _, rfl⟩
  rintro k s' ⟨h', tk, c, m', i, rfl, hst', F', N', hf', hk1, hk2, hP, hi9, rfl⟩
  have hst2 : h'.IsListIter h1.objs.size l i ∧ h'.IsList l vs.toArray := ⟨hst', ⟨_, (N' _ (hl c)).1, rfl, nn, rfl⟩⟩
  have next : ∀ h₂ : Heap, (∀ b o, b ∉ [h1.objs.size] → h'.get? b = some o → h₂.get? b = some o) → Fr h₀ env.locals h₂ m' ∧ News h₀ env.locals h₂ (Led c) := fun h₂ hk₂ =>
    ⟨⟨F'.ns.at' fun o e => hk₂ _ o (fun hb => hIL (List.mem_singleton.mp hb).symm) e, fun b o e => hk₂ b o (old b o e) (F'.keep b o e), F'.above⟩,
      fun p hp => ⟨hk₂ _ _ (fun hb => hIn c p hp (List.mem_singleton.mp hb).symm) (N' p hp).1, (N' p hp).2⟩⟩
  by_cases hlt : i < ns.length
  · refine W.item i { s with heap := h', toks := tk } _ _ hlt hst2 fun v h₂ tk₂ hPv hst₂ hk₂ => ?_
    obtain ⟨F₂, N₂⟩ := next h₂ hk₂
    refine wpAny_assign_Name (wpAny_storeName_local hx F₂.ns (fun h₃ hn₃ hs₃ => ?_) hp')
    have F₃ := F₂.set hn₃ hs₃
    have N₃ := N₂.set hs₃
    obtain ⟨oI, hoI, hcI, hdI⟩ := hst₂.1
    have hoI3 : h₃.get? h1.objs.size = some oI := (hs₃.2 _ hIL).trans hoI
    obtain ⟨t, rfl⟩ := item_at hi hlt hPv
    have hs9 := take_at hlt
    have e := split_at hlt
    have NI : News h₀ env.locals h₃ (Led c ++ [(h1.objs.size, oI)]) := fun p hp => by
      rcases List.mem_append.mp hp with hp | hp
      · exact N₃ p hp
      · rw [List.mem_singleton.mp hp]; exact ⟨hoI3, hIL, hIh⟩
    refine wpC_mono (turn c (ns.take i) _ ns[i] t m' h₃ _ h1.objs.size oI e (hIn c) hf' hP (kst_fr hk1 hk2 F₃) NI) (fun f s₃ h₃ => ?_) hE
    cases f with
    | ret v => exact h₃
    | brk => exact h₃
    | cont =>
      obtain ⟨c', h'', tk'', m'', news'', rfl, F4, N4, hn4, ho4, hf4, hk4, hr4, hp4⟩ := h₃
      exact ⟨ns.length + 1 - (i + 1), by omega, h'', tk'', c', m'', i + 1, rfl, ⟨_, (N4 _ ho4).1, hcI, hdI⟩, F4, fun p hp => N4 p (hn4 p hp), hf4, hk4, hr4, hs9 ▸ hp4, hlt, rfl⟩
    | next =>
      obtain ⟨c', h'', tk'', m'', news'', rfl, F4, N4, hn4, ho4, hf4, hk4, hr4, hp4⟩ := h₃
      exact ⟨ns.length + 1 - (i + 1), by omega, h'', tk'', c', m'', i + 1, rfl, ⟨_, (N4 _ ho4).1, hcI, hdI⟩, F4, fun p hp => N4 p (hn4 p hp), hf4, hk4, hr4, hs9 ▸ hp4, hlt, rfl⟩
  · have hin : i = ns.length := by omega
    subst hin
    refine W.done { s with heap := h', toks := tk } _ _ hst2 fun h₂ tk₂ hk₂ => ?_
    obtain ⟨F₂, N₂⟩ := next h₂ hk₂
    rw [List.take_length] at hP
    exact done c m' h₂ tk₂ hf' hP (kst_frOut hk1 hk2 F₂) N₂
end
end Mine
end
example : (0 : Nat) = 0 := by w_top off; first | walk1 | rfl
-- part Spec3
section
open PySem PySem.W PyProof.Rows PyProof
namespace Mine
open Builtin.Int (intBits)
theorem little_snoc (n : Nat) (x : Int) : KTBy.little (n + 1) x = KTBy.little n x ++ [x / 256 ^ n % 256] := by
  rw [KTBy.little_eq, KTBy.little_eq, List.range_succ, List.map_append]
  rfl
theorem inB_little (n : Nat) (x : Int) : InB (KTBy.little n x) := by
  intro y hy
  rw [KTBy.little_eq] at hy
  obtain ⟨i, _, rfl⟩ := List.mem_map.mp hy
  omega
theorem div_next (x : Int) (n : Nat) : (x / 256 ^ n).fdiv (2 ^ 8) = x / 256 ^ (n + 1) := by
  rw [Int.fdiv_eq_ediv_of_nonneg _ (by decide), Int.ediv_ediv_of_nonneg (Int.pow_nonneg (by decide)), Int.pow_succ]
  rfl
theorem bits_le {x : Int} (h0 : 0 ≤ x) (k : Nat) : intBits x ≤ k ↔ x < 2 ^ k := by
  rw [intBits_le_iff]
  have e : ((2 ^ k : Nat) : Int) = (2 : Int) ^ k := by rw [Int.natCast_pow]; rfl
  rw [← e]
  omega
set_option maxHeartbeats 4000000 in
/-- the packing loop's word, at its end -/
theorem more_of_bits {x : Int} (h0 : 0 ≤ x) {j : Nat} (hj : j ≤ 8) (hx : ¬ ((8 : Int) - (if (j : Int) + 1 < 8 then (j : Int) + 1 else 8) < (intBits x : Int) - 8 * (j : Int)))
    (hp : j = 0 ∨ ((8 : Int) - (if (j : Int) < 8 then (j : Int) else 8) < (intBits x : Int) - 8 * ((j : Int) - 1))) : more x = j ∧ x < 18446744073709551616 := by
  have b7 := bits_le h0 7
  have b14 := bits_le h0 14
  have b21 := bits_le h0 21
  have b28 := bits_le h0 28
  have b35 := bits_le h0 35
  have b42 := bits_le h0 42
  have b49 := bits_le h0 49
  have b56 := bits_le h0 56
  have b64 := bits_le h0 64
  simp only [Int.reducePow] at b7 b14 b21 b28 b35 b42 b49 b56 b64
  have c : j = 0 ∨ j = 1 ∨ j = 2 ∨ j = 3 ∨ j = 4 ∨ j = 5 ∨ j = 6 ∨ j = 7 ∨ j = 8 := by omega
  unfold more
  generalize intBits x = nb at *
  rcases c with rfl | rfl | rfl | rfl | rfl | rfl | rfl | rfl | rfl <;> (simp at hx hp; refine ⟨?_, ?_⟩ <;> (repeat' split) <;> omega)
theorem big_of_bits {x : Int} (h0 : 0 ≤ x) (hp : ((8 : Int) - 8 < (intBits x : Int) - 8 * 8)) : 18446744073709551616 ≤ x := by
  have b64 := bits_le h0 64
  simp only [Int.reducePow] at b64
  omega
theorem top_table : ∀ j : Fin 9, ∀ v : Fin 128, (v.val : Int) < 2 ^ (7 - j.val) → (j.val = 8 → v.val = 0) →
    (((Builtin.bitOr (v.val : Int) ((255 : Int).fdiv (2 ^ (8 - j.val)) * 2 ^ (8 - j.val))).natAbs : Nat) : Int) = 256 - 2 ^ (8 - j.val) + (v.val : Int) := by decide +kernel
theorem top_range : ∀ j : Fin 9, ∀ v : Fin 128, (v.val : Int) < 2 ^ (7 - j.val) → (j.val = 8 → v.val = 0) → (256 : Int) - 2 ^ (8 - j.val) + (v.val : Int) < 256 ∧ (0 : Int) ≤ 256 - 2 ^ (8 - j.val) + (v.val : Int) := by decide +kernel
theorem top_small {x : Int} (h0 : 0 ≤ x) (h1 : x < 18446744073709551616) : 0 ≤ x / 256 ^ more x ∧ x / 256 ^ more x < 2 ^ (7 - more x) ∧ (more x = 8 → x / 256 ^ more x = 0) := by
  have h8 := more_le x
  have hl : more x < 8 → x < 2 ^ (7 * more x + 7) := more_lt h0
  generalize more x = k at *
  have c : k = 0 ∨ k = 1 ∨ k = 2 ∨ k = 3 ∨ k = 4 ∨ k = 5 ∨ k = 6 ∨ k = 7 ∨ k = 8 := by omega
  rcases c with rfl | rfl | rfl | rfl | rfl | rfl | rfl | rfl | rfl <;> simp at hl ⊢ <;> omega
theorem top_is {x : Int} (h0 : 0 ≤ x) (h1 : x < 18446744073709551616) :
    (((Builtin.bitOr (x / 256 ^ more x) ((255 : Int).fdiv (2 ^ (8 - more x)) * 2 ^ (8 - more x))).natAbs : Nat) : Int) = 256 - 2 ^ (8 - more x) + x / 256 ^ more x ∧
      256 - 2 ^ (8 - more x) + x / 256 ^ more x < 256 ∧ 0 ≤ 256 - 2 ^ (8 - more x) + x / 256 ^ more x := by
  obtain ⟨a, b, c⟩ := top_small h0 h1
  have h8 := more_le x
  have hp : (2 : Int) ^ (7 - more x) ≤ 128 := by
    generalize more x = k at h8
    have c : k = 0 ∨ k = 1 ∨ k = 2 ∨ k = 3 ∨ k = 4 ∨ k = 5 ∨ k = 6 ∨ k = 7 ∨ k = 8 := by omega
    rcases c with rfl | rfl | rfl | rfl | rfl | rfl | rfl | rfl | rfl <;> decide
  obtain ⟨v, hv⟩ := Int.eq_ofNat_of_zero_le a
  rw [hv] at b c ⊢
  have h1 := top_table ⟨more x, by omega⟩ ⟨v, by omega⟩ b (fun h => by have := c h; exact Int.ofNat.inj this)
  have h2 := top_range ⟨more x, by omega⟩ ⟨v, by omega⟩ b (fun h => by have := c h; exact Int.ofNat.inj this)
  exact ⟨h1, h2⟩
theorem laid_is (x : Int) : (KTBy.little (more x) x ++ [256 - 2 ^ (8 - more x) + x / 256 ^ more x]).reverse = laid x := by
  rw [List.reverse_append]
  rfl
theorem laid_small {x : Int} (h1 : x < 128) : laid x = [x] := by
  unfold laid more
  rw [if_pos h1]
  simp [be, KTBy.little]
theorem inB_laid {x : Int} (h0 : 0 ≤ x) (h1 : x < 18446744073709551616) : InB (laid x) := by
  obtain ⟨_, b, c⟩ := top_is h0 h1
  intro y hy
  rcases List.mem_cons.mp hy with rfl | hy
  · exact ⟨c, b⟩
  · exact inB_little _ _ y (List.mem_reverse.mp hy)
theorem laid_length (x : Int) : (laid x).length = more x + 1 := by
  unfold laid be
  rw [List.length_cons, List.length_reverse, KTBy.little_length]
/-- a number as the doubled word that is told -/
def zig (n : Int) : Int := if 0 ≤ n then 2 * n else -2 * n - 1
theorem and_low4 (a b : Int) : ∃ low, Builtin.bitAnd a b = 16 * Builtin.bitAnd (a / 16) (b / 16) + low ∧ 0 ≤ low ∧ low ≤ a % 16 ∧ low ≤ b % 16 := by
  have h1 := kbt_halves a b
  have h2 := kbt_halves (a / 2) (b / 2)
  have h3 := kbt_halves (a / 2 / 2) (b / 2 / 2)
  have h4 := kbt_halves (a / 2 / 2 / 2) (b / 2 / 2 / 2)
  have ea : a / 2 / 2 / 2 / 2 = a / 16 := by omega
  have eb : b / 2 / 2 / 2 / 2 = b / 16 := by omega
  rw [ea, eb] at h4
  generalize Builtin.bitAnd (a / 16) (b / 16) = r at h4 ⊢
  generalize Builtin.bitAnd (a / 2 / 2 / 2) (b / 2 / 2 / 2) = r3 at h3 h4
  generalize Builtin.bitAnd (a / 2 / 2) (b / 2 / 2) = r2 at h2 h3
  generalize Builtin.bitAnd (a / 2) (b / 2) = r1 at h1 h2
  generalize Builtin.bitAnd a b = r0 at h1 ⊢
  refine ⟨r0 - 16 * r, by omega, ?_⟩
  split at h1 <;> split at h2 <;> split at h3 <;> split at h4 <;> refine ⟨?_, ?_, ?_⟩ <;> omega
theorem and_m1' (x : Int) : Builtin.bitAnd x (-1) = x := and_m1 x
theorem fdiv63 (n : Int) : n.fdiv (2 ^ 63) = n / 9223372036854775808 := by
  rw [Int.fdiv_eq_ediv_of_nonneg _ (by decide)]
  simp only [Int.reducePow]
theorem zig_in {n : Int} (h0 : -9223372036854775808 ≤ n) (h1 : n < 9223372036854775808) : Builtin.bitXor (n * 2) (n.fdiv (2 ^ 63)) = zig n ∧ 0 ≤ zig n ∧ zig n < 18446744073709551616 := by
  rw [fdiv63, bitXor_and]
  unfold zig
  by_cases h : 0 ≤ n
  · have e : n / 9223372036854775808 = 0 := by omega
    rw [e, and_zero, if_pos h]
    omega
  · have e : n / 9223372036854775808 = -1 := by omega
    rw [e, and_m1, if_neg h]
    omega
theorem zig_out {n : Int} (h : ¬ (-9223372036854775808 ≤ n ∧ n < 9223372036854775808)) (h0 : -147573952589676412928 < n) (h1 : n < 147573952589676412928) :
    18446744073709551616 ≤ Builtin.bitXor (n * 2) (n.fdiv (2 ^ 63)) ∧ Builtin.bitXor (n * 2) (n.fdiv (2 ^ 63)) < 1180591620717411303424 := by
  rw [fdiv63, bitXor_and]
  obtain ⟨low, e, l0, l1, l2⟩ := and_low4 (n * 2) (n / 9223372036854775808)
  rw [e]
  by_cases hn : 0 ≤ n
  · have eb : n / 9223372036854775808 / 16 = 0 := by omega
    rw [eb, and_zero]
    have hc : 1152921504606846976 ≤ n * 2 / 16 := by omega
    have hd : n / 9223372036854775808 % 16 = n / 9223372036854775808 := by omega
    have hd2 : n / 9223372036854775808 < 16 := by omega
    have hm : n * 2 = 16 * (n * 2 / 16) + n * 2 % 16 := by omega
    rw [hd] at l2
    generalize n / 9223372036854775808 = d at *
    generalize n * 2 / 16 = c at *
    generalize n * 2 % 16 = m at *
    omega
  · have eb : n / 9223372036854775808 / 16 = -1 := by omega
    rw [eb, and_m1]
    omega
theorem dec_zig (n : Int) : dec (zig n) = n := by
  unfold dec zig
  split <;> split <;> omega
set_option maxHeartbeats 4000000 in
theorem lead_table : ∀ j : Fin 9, ∀ v : Fin 128, (v.val : Int) < 2 ^ (7 - j.val) → (j.val = 8 → v.val = 0) → lead (256 - 2 ^ (8 - j.val) + (v.val : Int)) = j.val ∧ (256 - 2 ^ (8 - j.val) + (v.val : Int)) % 2 ^ (8 - j.val) = (v.val : Int) := by decide +kernel
theorem lead_top {x : Int} (h0 : 0 ≤ x) (h1 : x < 18446744073709551616) : lead (256 - 2 ^ (8 - more x) + x / 256 ^ more x) = more x ∧ (256 - 2 ^ (8 - more x) + x / 256 ^ more x) % 2 ^ (8 - more x) = x / 256 ^ more x := by
  obtain ⟨a, b, c⟩ := top_small h0 h1
  have h8 := more_le x
  have hp : (2 : Int) ^ (7 - more x) ≤ 128 := by
    generalize more x = k at h8
    have c : k = 0 ∨ k = 1 ∨ k = 2 ∨ k = 3 ∨ k = 4 ∨ k = 5 ∨ k = 6 ∨ k = 7 ∨ k = 8 := by omega
    rcases c with rfl | rfl | rfl | rfl | rfl | rfl | rfl | rfl | rfl <;> decide
  obtain ⟨v, hv⟩ := Int.eq_ofNat_of_zero_le a
  rw [hv] at b c ⊢
  exact lead_table ⟨more x, by omega⟩ ⟨v, by omega⟩ b (fun h => by have := c h; exact Int.ofNat.inj this)
theorem fold_be : ∀ (k : Nat) (x : Int), (be k x).foldl (fun a y => a * 256 + y) (x / 256 ^ k) = x
  | 0, x => by
    show x / 256 ^ 0 = x
    rw [Int.pow_zero, Int.ediv_one]
  | k + 1, x => by
    have e : be (k + 1) x = be k (x / 256) ++ [x % 256] := by
      show (x % 256 :: KTBy.little k (x / 256)).reverse = _
      rw [List.reverse_cons]
      rfl
    have e2 : x / 256 ^ (k + 1) = x / 256 / 256 ^ k := by
      rw [Int.ediv_ediv_of_nonneg (by decide), Int.pow_succ, Int.mul_comm]
    rw [e, List.foldl_append, e2, fold_be k (x / 256)]
    show x / 256 * 256 + x % 256 = x
    omega
theorem num_laid {x : Int} (h0 : 0 ≤ x) (h1 : x < 18446744073709551616) : num (256 - 2 ^ (8 - more x) + x / 256 ^ more x) (be (more x) x) = x := by
  obtain ⟨a, b⟩ := lead_top h0 h1
  unfold num
  rw [a, b, fold_be]
theorem be_length (k : Nat) (x : Int) : (be k x).length = k := by
  unfold be
  rw [List.length_reverse, KTBy.little_length]
theorem read_laid {x : Int} (h0 : 0 ≤ x) (h1 : x < 18446744073709551616) (r : List Int) : readL (laid x ++ r) = (readL r).map (dec x :: ·) := by
  obtain ⟨a, b⟩ := lead_top h0 h1
  unfold laid
  rw [List.cons_append, readL, a]
  rw [if_neg (by rw [List.length_append, be_length]; omega)]
  have e1 : (be (more x) x ++ r).drop (more x) = r := by rw [List.drop_left' (be_length _ _)]
  have e2 : (be (more x) x ++ r).take (more x) = be (more x) x := by rw [List.take_left' (be_length _ _)]
  rw [e1, e2, num_laid h0 h1]
def inR (n : Int) : Prop := -9223372036854775808 ≤ n ∧ n < 9223372036854775808
theorem read_told : ∀ ns : List Int, (∀ n ∈ ns, inR n) → readL (ns.flatMap fun n => laid (zig n)) = some ns
  | [], _ => by rw [List.flatMap_nil, readL]
  | n :: r, h => by
    have hn := h n (.head _)
    obtain ⟨_, z0, z1⟩ := zig_in hn.1 hn.2
    rw [List.flatMap_cons, read_laid z0 z1, read_told r fun m hm => h m (.tail _ hm), dec_zig]
    rfl
theorem first_laid (x : Int) (r : List Int) : (laid x ++ r).getD 0 0 = 256 - 2 ^ (8 - more x) + x / 256 ^ more x := rfl
theorem uread_laid {x : Int} (h0 : 0 ≤ x) (h1 : x < 18446744073709551616) (r : List Int) :
    lead ((laid x ++ r).getD 0 0) = more x ∧ lead ((laid x ++ r).getD 0 0) < (laid x ++ r).length ∧ num ((laid x ++ r).getD 0 0) (((laid x ++ r).drop 1).take (lead ((laid x ++ r).getD 0 0))) = x ∧ (laid x).length = lead ((laid x ++ r).getD 0 0) + 1 := by
  obtain ⟨a, b⟩ := lead_top h0 h1
  rw [first_laid, a]
  refine ⟨rfl, ?_, ?_, laid_length x⟩
  · rw [List.length_append, laid_length]; omega
  · have e2 : ((laid x ++ r).drop 1).take (more x) = be (more x) x := by
      show (be (more x) x ++ r).take (more x) = _
      rw [List.take_left' (be_length _ _)]
    rw [e2, num_laid h0 h1]
end Mine
end
example : (0 : Nat) = 0 := by w_top off; first | walk1 | rfl
-- part BY
section
open PySem PySem.W PyProof.Rows PySem.Calls PySem.Spec
namespace Mine
theorem mro_ba : mroOf (.type "bytearray") = pure [.type "bytearray", .type "object"] := by rw [mroOf_type]; kernel_rfl
theorem lookup_ba_new : typeLookup (.type "bytearray") "__new__" = pure (some (.builtin "bytearray.__new__")) := by rw [typeLookup_type, builtinLookup_eq_fast]; kernel_rfl
theorem slot_ba_init : Slot "bytearray" "__init__" "bytearray.__init__" :=
  .of (owner := "bytearray") (n := "__init__") (by rw [typeLookup_type, builtinLookup_eq_fast]; kernel_rfl) (by decide +kernel) (by decide +kernel) (by decide +kernel)
    (by first | exact .inl (by decide +kernel) | exact .inr (by decide +kernel)) (by rw [isSubtype_type]; kernel_rfl)
theorem called_ba : TypeCalled "bytearray" "bytearray.__new__" "bytearray.__init__" :=
  ⟨by decide +kernel, by decide +kernel, ⟨_, _, mro_ba⟩, madeBy_type mro_ba lookup_ba_new (by decide +kernel), by decide +kernel, by rw [isSubtype_type]; kernel_rfl, slot_ba_init⟩
theorem typeCall_ba : checkTypeCall "bytearray" ⟨[], []⟩ = pure () := by kernel_rfl
theorem newCall_ba : checkBuiltinCall "bytearray.__new__" ⟨[.type "bytearray"], []⟩ = pure () := by kernel_rfl
theorem entry_ba_new : entryFor table "bytearray.__new__" = some Builtin.«list.__new__» :=
  entryFor_alias (id' := "list.__new__") (by rw [fastTable_eq_tree]; kernel_rfl) (by decide +kernel) (by decide +kernel) (by rw [fastTable_eq_tree]; kernel_rfl)
theorem plain_ba_new : plainId "bytearray.__new__" = true := by decide +kernel
theorem sub_ba : isSubtype (.type "bytearray") (.type "bytearray") = pure true := by rw [isSubtype_type]; kernel_rfl
theorem bind_ba : Builtin.Bytes.bindOptional "bytearray.__init__" "bytearray" ["source", "encoding", "errors"] [] [] = pure [none, none, none] := by kernel_rfl
theorem plainAttrs_ba : PlainAttrs "bytearray" :=
  ⟨⟨"bytearray.__getattribute__", by rw [typeLookup_type, builtinLookup_eq_fast]; kernel_rfl, by decide +kernel⟩, by rw [typeLookup_type, builtinLookup_eq_fast]; kernel_rfl⟩
theorem owner_ba : Manifest.owners.lookup (String.ofList ['y','a','r','r','a','e','t','y','b'].reverse) = some Manifest.sig_bytearray := by kernel_rfl
theorem slot_ba_append : Slot "bytearray" "append" "bytearray.append" :=
  .of (owner := "bytearray") (n := "append") (by rw [typeLookup_type, builtinLookup_eq_fast]; kernel_rfl) (by decide +kernel) (by decide +kernel) (by decide +kernel)
    (by first | exact .inl (by decide +kernel) | exact .inr (by decide +kernel)) (by rw [isSubtype_type]; kernel_rfl)
theorem type_ba_append : typeOf (.builtin "bytearray.append") = pure (.type "method_descriptor") := by show builtinType _ = _; rw [builtinType_eq_fast]; kernel_rfl
theorem entry_ba_append : entryFor table "bytearray.append" = some Builtin.«bytearray.append» := entryFor_of_tree (by kernel_rfl)
theorem args_ba_append (a b : Value) : argsOk "bytearray.append" ⟨[a, b], []⟩ := by
  unfold argsOk; rw [signature?_of (id := "bytearray.append") (n := ['d', 'n', 'e', 'p', 'p', 'a']) (o := ['y','a','r','r','a','e','t','y','b']) (by kernel_rfl) owner_ba]; kernel_rfl
theorem slot_ba_reverse : Slot "bytearray" "reverse" "bytearray.reverse" :=
  .of (owner := "bytearray") (n := "reverse") (by rw [typeLookup_type, builtinLookup_eq_fast]; kernel_rfl) (by decide +kernel) (by decide +kernel) (by decide +kernel)
    (by first | exact .inl (by decide +kernel) | exact .inr (by decide +kernel)) (by rw [isSubtype_type]; kernel_rfl)
theorem type_ba_reverse : typeOf (.builtin "bytearray.reverse") = pure (.type "method_descriptor") := by show builtinType _ = _; rw [builtinType_eq_fast]; kernel_rfl
theorem entry_ba_reverse : entryFor table "bytearray.reverse" = some Builtin.«bytearray.reverse» := entryFor_of_tree (by kernel_rfl)
theorem args_ba_reverse (a : Value) : argsOk "bytearray.reverse" ⟨[a], []⟩ := by
  unfold argsOk; rw [signature?_of (id := "bytearray.reverse") (n := ['e','s','r','e','v','e','r']) (o := ['y','a','r','r','a','e','t','y','b']) (by kernel_rfl) owner_ba]; kernel_rfl
theorem entry_ba_init : entryFor table "bytearray.__init__" = some Builtin.«bytearray.__init__» := entryFor_of_tree (by kernel_rfl)
theorem args_ba_init (a : Value) : argsOk "bytearray.__init__" ⟨[a], []⟩ := by
  unfold argsOk; rw [signature?_of (id := "bytearray.__init__") (n := ['_', '_', 't','i','n','i', '_', '_']) (o := ['y','a','r','r','a','e','t','y','b']) (by kernel_rfl) owner_ba]; kernel_rfl
theorem look_ba_release : typeLookup (.type "bytearray") "__release_buffer__" = pure (some (.builtin "bytearray.__release_buffer__")) := by rw [typeLookup_type, builtinLookup_eq_fast]; kernel_rfl
theorem look_ba_buffer : typeLookup (.type "bytearray") "__buffer__" = pure (some (.builtin "bytearray.__buffer__")) := by rw [typeLookup_type, builtinLookup_eq_fast]; kernel_rfl
theorem no_ba_bytes : typeLookup (.type "bytearray") "__bytes__" = pure none := by rw [typeLookup_type, builtinLookup_eq_fast]; kernel_rfl
theorem no_ba_index : typeLookup (.type "bytearray") "__index__" = pure none := by rw [typeLookup_type, builtinLookup_eq_fast]; kernel_rfl
set_option maxRecDepth 1000000 in
set_option maxHeartbeats 4000000 in
theorem owner_ba_new : ("bytearray.__new__".splitOn ".__new__").headD "" = "bytearray" := by simp +decide [String.splitOn, String.splitOnAux]

abbrev baObj (ns : List Int) : Obj := { cls := .type "bytearray", data := .bytearray (byteArr ns) }
theorem ba_endsWith : ("bytearray.__release_buffer__".endsWith ("." ++ "__release_buffer__")) = true := by decide +kernel
theorem ba_drop : ("bytearray.__release_buffer__".dropRight ("__release_buffer__".length + 1)) = "bytearray" := by decide +kernel
theorem bb_endsWith : ("bytearray.__buffer__".endsWith ("." ++ "__buffer__")) = true := by decide +kernel
theorem bb_drop : ("bytearray.__buffer__".dropRight ("__buffer__".length + 1)) = "bytearray" := by decide +kernel
section
variable {prog : Program} {w : World} {A : Around} {E : Value → Shared → Prop} {s : Shared} {R : Result → Shared → Prop}
theorem ba_release {a : Addr} {Q : Bool → Shared → Prop} (hT : s.TypeIs (.ref a) "bytearray") (h : Q false s) : wpAny (model prog w) A (Builtin.Bytes.ownRelease (.ref a)) Q E s := by
  unfold Builtin.Bytes.ownRelease
  refine wpAny_bind ?_
  unfold Builtin.Bytes.slotIsOwn
  refine wpAny_bind (wpAny_specialOf hT look_ba_release ?_)
  dsimp only
  rw [ba_endsWith]
  refine bm_if_false rfl ?_
  rw [ba_drop]
  refine wpAny_isInstance hT sub_ba ?_
  exact wpAny_pure h
theorem ba_bufOwn {a : Addr} {Q : Bool → Shared → Prop} (hT : s.TypeIs (.ref a) "bytearray") (h : Q true s) : wpAny (model prog w) A (Builtin.Bytes.slotIsOwn (.ref a) "__buffer__") Q E s := by
  unfold Builtin.Bytes.slotIsOwn
  refine wpAny_bind (wpAny_specialOf hT look_ba_buffer ?_)
  dsimp only
  rw [bb_endsWith]
  refine bm_if_false rfl ?_
  rw [bb_drop]
  exact wpAny_isInstance hT sub_ba h
theorem ba_new {Q₁ : Value → Shared → Prop} (h : Q₁ (.ref s.heap.objs.size) { s with heap := s.heap.push (baObj []) }) :
    codeAny (model prog w) A (.call (.builtin "bytearray.__new__") ⟨[.type "bytearray"], []⟩) (wants Q₁ E) s := by
  refine codeAny_of_tree ?_
  show wpAny _ A.in1 (do checkBuiltinCall "bytearray.__new__" ⟨[.type "bytearray"], []⟩; again (.builtin "bytearray.__new__" ⟨[.type "bytearray"], []⟩)) _ _ s
  refine wpAny_bind (wpAny_of_eq newCall_ba (wpAny_pure ⟨plainId_quiet plain_ba_new _, codeAny_builtin_stack entry_ba_new rfl fun p st => ?_⟩))
  rw [Around.under_plainId plain_ba_new _]
  have hsub := sub_ba
  have hown := owner_ba_new
  obtain ⟨hp, g, d, tk, os⟩ := s
  simp only [hown]
  wp_walk
  exact h
theorem wpC_checkResize {a : Addr} {b : Array UInt8} {o : Obj} {Q : Unit → Shared → Prop} (ho : s.heap.get? a = some o) (hd : o.data = .bytearray b) (h : Q () s) : wpC (model prog w) A (Builtin.Bytes.checkResize (.ref a)) Q E s := by
  unfold Builtin.Bytes.checkResize
  refine wpC_bind (wpC_bind (wpC_exported ?_))
  refine wpC_any ?_
  with_unfolding_all show wpAny _ _ (Builtin.Bytes.exportsOf (.ref a) >>= fun n => pure (decide (n > 0))) _ _ s
  refine wpAny_bind ?_
  unfold Builtin.Bytes.exportsOf
  refine wpAny_bind (wpAny_load ho ?_)
  rw [hd]
  exact wpAny_pure (wpAny_pure (wpC_any (wpAny_pure h)))

theorem ba_write {S : Addr} {b : Array UInt8} {f : Array UInt8 → Array UInt8} {Q : Unit → Shared → Prop} (hS : s.heap.get? S = some { cls := .type "bytearray", data := .bytearray b }) (hz : (f b).size ≤ sizeLine)
    (h : ∀ h', Heap.SameBut S s.heap h' → h'.get? S = some { cls := .type "bytearray", data := .bytearray (f b) } → Q () { s with heap := h' }) : wpAny (model prog w) A (Builtin.Bytes.write (.ref S) f) Q E s := by
  show wpAny _ _ (updateBytearray S f) _ _ _
  unfold updateBytearray
  refine wpAny_bind (wpAny_load hS ?_)
  show wpAny _ _ (update S (Obj.mapBytearray f) >>= fun _ => lookBehind S) _ _ _
  refine wpAny_bind (wpAny_update hS ?_)
  have hS₂ : (s.heap.update S (Obj.mapBytearray f)).get? S = some { cls := .type "bytearray", data := .bytearray (f b) } := Heap.get?_update_self (Obj.mapBytearray f) hS rfl
  refine wpAny_lookBehind hS₂ ?_ (h _ (Heap.SameBut.update ..) hS₂)
  show (if (f b).size > sizeLine then some "bytearray:memory" else none) = none
  rw [if_neg (Nat.not_lt.mpr hz)]
theorem codeC_builtin {id : String} {args : Args} {b : Builtin} (hcl : heldIds.contains id = false) (hb : entryFor table id = some b)
    (h : wpC (model prog w) (A.under (.builtin id args)) (b args)
      (fun fin s' => match fin with | .done f => R (.ok f) s' | .again c' => c'.quiet = true ∧ codeC (model prog w) A c' R s') (fun e s' => R (.error e) s') s) :
    codeC (model prog w) A (.builtin id args) R s := by
  refine codeC_of_tree (by show (!heldIds.contains id) = true; rw [hcl]; rfl) ?_
  show wpC _ _ (match entryFor table id with | some b => b args | none => unsupported ((withoutEnding? id "#data").getD id)) _ _ s
  rw [hb]; exact h
theorem callC_bytearray {Q : Value → Shared → Prop} (h : ∀ hp tk, (∀ b o, s.heap.get? b = some o → hp.get? b = some o) → hp.get? s.heap.objs.size = some (baObj []) → Q (.ref s.heap.objs.size) { s with heap := hp, toks := tk }) :
    wpC (model prog w) A (call (.type "bytearray") []) Q E s := by
  obtain ⟨c, tl, hmro⟩ := called_ba.mro
  have hmade := called_ba.made
  have hsub := called_ba.sub
  have h1 := called_ba.notType
  have h2 := called_ba.canCreate
  refine wpC_call (codeC_of_tree rfl ?_)
  show wpC _ _ (callAny (.type "bytearray") _) _ _ _
  refine wpC_pure ⟨Code.quiet_builtin _ (by decide +kernel), codeC_builtin (by decide) F.entry_type_call ?_⟩
  rw [Around.under_plain (weight_type_call_type "bytearray" [] []) (units_type_call_type "bytearray" [] [])]
  unfold Builtin.«type.__call__»
  dsimp only
  simp only [h1, h2, Bool.false_eq_true, if_false]
  refine wpC_then (wpAny_of_eq typeCall_ba ?_)
  refine wpC_then (wpAny_of_eq hmro ?_)
  simp only [List.isEmpty_cons, Bool.false_eq_true, if_false]
  refine wpC_then (wpAny_of_eq hmade ?_)
  dsimp only
  refine wpC_then (wpAny_pure ?_)
  have hT : ({ s with heap := s.heap.push (baObj []) } : Shared).TypeIs (.ref s.heap.objs.size) "bytearray" := ⟨_, Heap.get?_push_size _ rfl, rfl⟩
  refine wpC_then (wpAny_holding (wpAny_call (codeAny_mono (ba_new (E := fun _ _ => False) (Q₁ := fun v s₁ => v = .ref s.heap.objs.size ∧ s₁ = { s with heap := s.heap.push (baObj []) }) ⟨rfl, rfl⟩) fun r s₁ hr => ?_)))
  cases r with
  | error e => exact hr.elim
  | ok fl =>
    cases fl with
    | ret obj =>
      obtain ⟨rfl, rfl⟩ := hr
      refine wpC_then (wpAny_isInstance hT sub_ba ?_)
      simp only [Bool.not_true, Bool.false_eq_true, if_false]
      refine wpC_bind (wpC_holding ?_)
      unfold callSpecial?
      refine wpC_then (wpAny_specialOf hT called_ba.init.lookup ?_)
      dsimp only
      refine wpC_holding (wpC_then (wpAny_of_eq (called_ba.init.bind _) ?_))
      dsimp only
      refine wpC_bind (wpC_call (codeC_call_builtin (by decide) called_ba.init.plain entry_ba_init (called_ba.init.check _ _ _ _ _ _ _ _ hT (args_ba_init _) ?_)))
      unfold Builtin.«bytearray.__init__»
      dsimp only
      refine wpC_then (ba_release hT ?_)
      simp only [Bool.false_eq_true, if_false]
      refine wpC_then (wpAny_of_eq bind_ba ?_)
      dsimp only
      refine wpC_then (wpAny_of_eq (a := ()) rfl ?_)
      refine wpC_then (wpAny_of_eq (a := ()) rfl ?_)
      refine wpC_bind (wpC_bind (wpC_exported ?_))
      refine wpC_any ?_
      have hob : (s.heap.push (baObj [])).get? s.heap.objs.size = some (baObj []) := Heap.get?_push_size _ rfl
      with_unfolding_all show wpAny _ _ (Builtin.Bytes.exportsOf (.ref s.heap.objs.size) >>= fun n => pure (decide (n > 0))) _ _ _
      refine wpAny_bind ?_
      unfold Builtin.Bytes.exportsOf
      refine wpAny_bind (wpAny_load hob ?_)
      refine wpAny_pure (wpAny_pure ?_)
      refine wpC_any ?_
      simp only [gt_iff_lt, Nat.lt_irrefl, decide_false, Bool.false_eq_true, if_false]
      refine wpAny_bind (ba_write (f := fun _ => #[]) hob (Nat.zero_le _) fun h' hsb hg => ?_)
      refine wpAny_bind (wpAny_of_eq (a := ()) rfl ?_)
      refine wpAny_pure ?_
      refine wpC_pure ?_
      dsimp only
      simp only [bne_self_eq_false, Bool.false_eq_true, if_false]
      refine wpC_pure (h h' _ (fun b o e => (hsb.2 b (Nat.ne_of_lt (Heap.lt_size e))).trans (Heap.get?_push_of_some _ e)) hg)
    | _ => exact hr.elim
theorem byteArr_push (ns : List Int) (n : Int) : (byteArr ns).push n.toNat.toUInt8 = byteArr (ns ++ [n]) := by
  unfold byteArr
  rw [List.map_append, List.push_toArray]
  rfl
theorem byteArr_rev (ns : List Int) : (byteArr ns).reverse = byteArr ns.reverse := by
  unfold byteArr
  rw [List.map_reverse, List.reverse_toArray]
theorem getMethod_ba_append {a : Addr} {ns : List Int} {pl : Sem Bool} {Q : Value × List Value → Shared → Prop} (ho : s.heap.get? a = some (baObj ns)) (h : Q (.builtin "bytearray.append", [.ref a]) s) :
    wpAny (model prog w) A (getMethod (.ref a) "append" pl) Q E s :=
  getMethod_builtin (T := "bytearray") ⟨_, ho, rfl⟩ plainAttrs_ba slot_ba_append type_ba_append (fun b e => by cases e; exact ⟨_, ho, rfl⟩) h
theorem getMethod_ba_reverse {a : Addr} {ns : List Int} {pl : Sem Bool} {Q : Value × List Value → Shared → Prop} (ho : s.heap.get? a = some (baObj ns)) (h : Q (.builtin "bytearray.reverse", [.ref a]) s) :
    wpAny (model prog w) A (getMethod (.ref a) "reverse" pl) Q E s :=
  getMethod_builtin (T := "bytearray") ⟨_, ho, rfl⟩ plainAttrs_ba slot_ba_reverse type_ba_reverse (fun b e => by cases e; exact ⟨_, ho, rfl⟩) h
theorem callC_append {a : Addr} {ns : List Int} {n : Int} {t : Tok} {Q : Value → Shared → Prop} (ho : s.heap.get? a = some (baObj ns)) (h0 : 0 ≤ n) (h1 : n < 256) (hz : ns.length < 1000)
    (h : ∀ h', Heap.SameBut a s.heap h' → h'.get? a = some (baObj (ns ++ [n])) → Q .none { s with heap := h' }) : wpC (model prog w) A (call (.builtin "bytearray.append") [.ref a, .int n t]) Q E s := by
  have hT : s.TypeIs (.ref a) "bytearray" := ⟨_, ho, rfl⟩
  refine wpC_call (codeC_call_builtin (by decide) slot_ba_append.plain entry_ba_append (slot_ba_append.check _ _ _ _ _ _ _ _ hT (args_ba_append _ _) ?_))
  unfold Builtin.«bytearray.append»
  refine wpC_then (wpAny_of_eq (a := (Value.ref a, Value.int n t)) rfl ?_)
  dsimp only
  unfold Builtin.Bytes.byteValue
  refine wpC_then (wpAny_bind (wpAny_of_eq (rfl : asIndex (.int n t) = pure n) ?_))
  refine bm_if_false (by simp only [Bool.or_eq_false_iff, decide_eq_false_iff_not]; omega) ?_
  refine wpAny_pure (wpC_bind (wpC_checkResize ho rfl ?_))
  refine wpC_then (ba_write ho ?_ fun h' hsb hg => ?_)
  · rw [byteArr_push, byteArr_size, List.length_append, sizeLine_eq, List.length_singleton]
    omega
  · rw [byteArr_push] at hg
    exact wpC_pure (h h' hsb hg)
theorem call_reverse {a : Addr} {ns : List Int} {Q : Value → Shared → Prop} (ho : s.heap.get? a = some (baObj ns)) (hz : ns.length < 1000)
    (h : ∀ h', Heap.SameBut a s.heap h' → h'.get? a = some (baObj ns.reverse) → Q .none { s with heap := h' }) : wpAny (model prog w) A (call (.builtin "bytearray.reverse") [.ref a]) Q E s := by
  have hT : s.TypeIs (.ref a) "bytearray" := ⟨_, ho, rfl⟩
  refine wpAny_call (codeAny_call_builtin slot_ba_reverse.plain entry_ba_reverse (slot_ba_reverse.check _ _ _ _ _ _ _ _ hT (args_ba_reverse _) ?_))
  unfold Builtin.«bytearray.reverse»
  refine wpAny_bind (wpAny_of_eq (a := Value.ref a) rfl ?_)
  refine wpAny_bind (ba_write ho ?_ fun h' hsb hg => ?_)
  · rw [byteArr_rev, byteArr_size, List.length_reverse, sizeLine_eq]
    omega
  · rw [byteArr_rev] at hg
    exact wpAny_pure (h h' hsb hg)
theorem ba_toBytes {a : Addr} {ns : List Int} {Q : Value → Shared → Prop} (ho : s.heap.get? a = some (baObj ns)) (hz : ns.length < 1000)
    (h : Q (.bytes (byteArr ns) s.toks) { s with toks := s.toks + 1 }) : codeAny (model prog w) A (.call (.builtin "bytes.__new__") ⟨[.type "bytes", .ref a], []⟩) (wants Q E) s := by
  refine codeAny_of_tree ?_
  show wpAny _ A.in1 (do checkBuiltinCall "bytes.__new__" ⟨[.type "bytes", .ref a], []⟩; again (.builtin "bytes.__new__" ⟨[.type "bytes", .ref a], []⟩)) _ _ s
  refine wpAny_bind (wpAny_of_eq (F.bm_newCall _) (wpAny_pure ⟨plainId_quiet F.bm_plain _, codeAny_builtin F.bm_entry ?_⟩))
  rw [Around.under_plainId F.bm_plain _]
  have hT : s.TypeIs (.ref a) "bytearray" := ⟨_, ho, rfl⟩
  unfold Builtin.«bytes.__new__»
  refine wpAny_bind (wpAny_of_eq (a := true) rfl ?_)
  refine bm_if_false rfl ?_
  refine wpAny_bind (wpAny_of_eq F.bm_sub ?_)
  refine bm_if_false rfl ?_
  refine wpAny_bind (wpAny_of_eq (F.bm_bind _) ?_)
  refine wpAny_bind (wpAny_of_eq (a := ()) rfl ?_)
  refine wpAny_bind (wpAny_of_eq (a := ()) rfl ?_)
  refine bm_if_false rfl ?_
  refine wpAny_bind (wpAny_specialOf hT no_ba_bytes ?_)
  refine wpAny_bind (wpAny_bind ?_)
  show wpAny _ _ (load a >>= _) _ _ _
  refine wpAny_bind (wpAny_load ho ?_)
  refine wpAny_pure (wpAny_pure ?_)
  refine bm_if_false rfl ?_
  refine wpAny_bind (wpAny_specialOf hT no_ba_index ?_)
  refine bm_if_true rfl ?_
  first
    | show wpAny _ _ (Builtin.Bytes.buffer? "bytes.__new__" (.ref a) true >>= _) _ _ _
    | (refine wpAny_bind ?_; show wpAny _ _ (Builtin.Bytes.buffer? "bytes.__new__" (.ref a) true >>= _) _ _ _)
  refine wpAny_bind ?_
  unfold Builtin.Bytes.buffer?
  refine wpAny_bind (wpAny_specialOf hT look_ba_buffer ?_)
  refine wpAny_bind (ba_bufOwn hT ?_)
  refine bm_if_false rfl ?_
  refine wpAny_bind (wpAny_specialOf hT look_ba_buffer ?_)
  with_unfolding_all refine wpAny_bind (m := Builtin.Bytes.ownRelease (.ref a)) (ba_release hT ?_)
  refine bm_if_false rfl ?_
  unfold Builtin.Bytes.payload Builtin.Bytes.payload?
  refine wpAny_bind (wpAny_bind (wpAny_bind (wpAny_load ho ?_)))
  refine wpAny_pure (wpAny_pure (wpAny_pure ?_))
  dsimp only
  refine wpAny_bind (wpAny_rule (wpAny_bind (wpAny_mkBytes ?_ ?_)))
  · exact wpAny_pure h
  · rw [byteArr_size, sizeLine_eq]; omega
theorem call_bytes_ba {a : Addr} {ns : List Int} {Q : Value → Shared → Prop} (ho : s.heap.get? a = some (baObj ns)) (hz : ns.length < 1000)
    (h : Q (.bytes (byteArr ns) s.toks) { s with toks := s.toks + 1 }) : wpAny (model prog w) A (call (.type "bytes") [.ref a]) Q E s := by
  refine callType_codes (Q₁ := fun obj s₁ => s₁.TypeIs obj "bytes" ∧ Q obj s₁) F.bm_called (F.bm_typeCall _) F.entry_object_init
    (ba_toBytes ho hz ⟨PySem.W.typeIs_bytes _ _ _, h⟩) fun obj s₁ h₁ => ?_
  exact ⟨h₁.1, F.args_object_init_2 obj _, object_init_meets F.bm_called.init.lookup F.bm_called.made (by decide) prog w A.in1 _ s₁ ⟨h₁.1, rfl, h₁.2⟩⟩
theorem bInts_byteArr {ns : List Int} (h : ∀ n ∈ ns, 0 ≤ n ∧ n < 256) : KBw.bInts (byteArr ns) = ns := by
  induction ns with
  | nil => rfl
  | cons n r ih =>
    have hr := ih fun m hm => h m (.tail _ hm)
    have hn := h n (.head _)
    unfold KBw.bInts byteArr at *
    simp only [List.map_cons] at hr ⊢
    rw [hr]
    congr 1
    show ((n.toNat.toUInt8.toNat : Nat) : Int) = n
    simp only [Nat.toUInt8, UInt8.toNat_ofNat']
    omega
end
end Mine
end
example : (0 : Nat) = 0 := by w_top off; first | walk1 | rfl
-- part CK
section
open PySem PySem.W PyProof.Rows PySem.Calls PySem.Spec
namespace Mine
section
variable {prog : Program} {w : World} {A : Around} {E : Value → Shared → Prop} {s : Shared} {env : Env} {h₀ : Heap} {L : Addr} {m : Str → Option Value} {news nx : List (Addr × Obj)} {V : Addr} {ns : List Int}
theorem callC_bytearray_K {Q : Value → Shared → Prop} (F : Fr h₀ L s.heap m) (N : News h₀ L s.heap news)
    (h : ∀ V hp tk, Fr h₀ L hp m → News h₀ L hp ((V, baObj []) :: news) → (∀ p ∈ news, p.1 < V) → Q (.ref V) { s with heap := hp, toks := tk }) :
    wpC (model prog w) A (call (.type "bytearray") []) Q E s := by
  refine callC_bytearray fun hp tk hk hg => h _ hp tk (F.keeps hk) (fun p hp' => ?_) fun p hp' => Heap.lt_size (N p hp').1
  rcases List.mem_cons.mp hp' with rfl | hp'
  · refine ⟨hg, Nat.ne_of_gt F.ns.lt, ?_⟩
    cases e : h₀.get? s.heap.objs.size with
    | none => rfl
    | some o => exact absurd (Heap.lt_size (F.keep _ _ e)) (Nat.lt_irrefl _)
  · exact ⟨hk _ _ (N p hp').1, (N p hp').2⟩
theorem ba_upd {h h' : Heap} {o : Obj} {rest : List (Addr × Obj)} (F : Fr h₀ L h m) (N : News h₀ L h nx) (hm : (V, o) ∈ nx) (hr : ∀ p ∈ rest, p ∈ nx ∧ p.1 ≠ V) (hsb : Heap.SameBut V h h') {o' : Obj} (hg : h'.get? V = some o') :
    Fr h₀ L h' m ∧ News h₀ L h' ((V, o') :: rest) := by
  obtain ⟨n1, n2, n3⟩ := N _ hm
  refine ⟨⟨F.ns.sameBut hsb (Ne.symm n2), fun b ob e => (hsb.2 b fun q => ?_).trans (F.keep b ob e), F.above⟩, fun p hp => ?_⟩
  · rw [q, n3] at e; cases e
  · rcases List.mem_cons.mp hp with rfl | hp
    · exact ⟨hg, n2, n3⟩
    · exact ⟨(hsb.2 _ (hr p hp).2).trans (N p (hr p hp).1).1, (N p (hr p hp).1).2⟩
/-- what the append's argument must give -/
def AppAt (h₀ : Heap) (L : Addr) (V : Addr) (ns : List Int) (rest : List (Addr × Obj)) (Q : Flow → Shared → Prop) (v : Value) (s : Shared) : Prop :=
  ∃ n t m nx, v = .int n t ∧ 0 ≤ n ∧ n < 256 ∧ Fr h₀ L s.heap m ∧ News h₀ L s.heap nx ∧ (V, baObj ns) ∈ nx ∧ (∀ p ∈ rest, p ∈ nx ∧ p.1 ≠ V) ∧
    ∀ h', Fr h₀ L h' m → News h₀ L h' ((V, baObj (ns ++ [n])) :: rest) → Q .next { s with heap := h' }
theorem appendC {pl : Sem Bool} {x : Str} {p apos pos pos' : Pos} {e : Expr} {rest : List (Addr × Obj)} {Q : Flow → Shared → Prop} (F : Fr h₀ env.locals s.heap m) (hx : m x = some (.ref V)) (N : News h₀ env.locals s.heap news) (hm : (V, baObj ns) ∈ news) (hz : ns.length < 1000)
    (hk : env.scope.kind = .function) (hl : env.kindOf x = some .local) (hdb : (x == ("__debug__" : Str)) = false)
    (h : wpAny (model prog w) A (eval e env) (AppAt h₀ env.locals V ns rest Q) E s)
    (hi : interactive env = false := by rfl) (hs : swapsWith (.Call (.Attribute (.Name x p) "append" apos) [e] [] pos) none pos'.line env = pure false := by rfl)
    (he : eval (.Call (.Attribute (.Name x p) "append" apos) [e] [] pos) env = (do
      let ov ← eval (.Name x p) env
      standAt apos.atName
      let (f, first) ← holding [ov] (getMethod ov "append" pl)
      callWith pos f first (backTo pos (starEach [e] env)) []) := by rfl)
    (hst : starEach [e] env = [(false, eval e env)] := by rfl) :
    wpC (model prog w) A (exec (.Expr (.Call (.Attribute (.Name x p) "append" apos) [e] [] pos) pos') env) Q E s := by
  refine wpC_Expr_any (wpC_MethodCall (pl := pl) (wpAny_Name (wpAny_loadName_local hk hl F.ns hx ?_) hdb) he) hi hs
  refine getMethod_ba_append (N _ hm).1 ?_
  dsimp only
  rw [hst]
  refine callWithC_builtin rfl (evalArgsC (wpC_spliced1 (wpC_any (wpAny_mono h (fun v s₁ h₁ => ?_) fun _ _ x => x))))
  obtain ⟨n, t, m₁, nx, rfl, n0, n1, F₁, N₁, hm₁, hr, hq⟩ := h₁
  refine callC_append (N₁ _ hm₁).1 n0 n1 hz fun h' hsb hg => ?_
  obtain ⟨F₂, N₂⟩ := ba_upd F₁ N₁ hm₁ hr hsb hg
  exact hq h' F₂ N₂
theorem reverse_K {pl : Sem Bool} {x : Str} {p apos pos pos' : Pos} {rest : List (Addr × Obj)} {Q : Flow → Shared → Prop} (F : Fr h₀ env.locals s.heap m) (hx : m x = some (.ref V)) (N : News h₀ env.locals s.heap news) (hm : (V, baObj ns) ∈ news) (hz : ns.length < 1000)
    (hk : env.scope.kind = .function) (hl : env.kindOf x = some .local) (hdb : (x == ("__debug__" : Str)) = false) (hr : ∀ p ∈ rest, p ∈ news ∧ p.1 ≠ V)
    (h : ∀ h', Fr h₀ env.locals h' m → News h₀ env.locals h' ((V, baObj ns.reverse) :: rest) → Q .next { s with heap := h' })
    (hi : interactive env = false := by rfl) (hs : swapsWith (.Call (.Attribute (.Name x p) "reverse" apos) [] [] pos) none pos'.line env = pure false := by rfl)
    (he : eval (.Call (.Attribute (.Name x p) "reverse" apos) [] [] pos) env = (do
      let ov ← eval (.Name x p) env
      standAt apos.atName
      let (f, first) ← holding [ov] (getMethod ov "reverse" pl)
      callWith pos f first (backTo pos (starEach [] env)) []) := by rfl) :
    wpAny (model prog w) A (exec (.Expr (.Call (.Attribute (.Name x p) "reverse" apos) [] [] pos) pos') env) Q E s := by
  refine wpAny_Expr_any (MethodCall_ (pl := pl) (wpAny_Name (wpAny_loadName_local hk hl F.ns hx ?_) hdb) he) hi hs
  refine getMethod_ba_reverse (N _ hm).1 ?_
  refine callWith_method0 (call_reverse (N _ hm).1 hz fun h' hsb hg => ?_)
  obtain ⟨F₂, N₂⟩ := ba_upd F N hm hr hsb hg
  exact h h' F₂ N₂
theorem bytes_ba_K {Q : Value → Shared → Prop} (N : News h₀ L s.heap news) (hm : (V, baObj ns) ∈ news) (hz : ns.length < 1000) (h : Q (.bytes (byteArr ns) s.toks) { s with toks := s.toks + 1 }) : wpAny (model prog w) A (call (.type "bytes") [.ref V]) Q E s :=
  call_bytes_ba (N _ hm).1 hz h
end
section
variable {M : Model} {A : Around} {E : Value → Shared → Prop} {Q : Flow → Shared → Prop} {s : Shared} {env : Env}
/-- the ways of one statement meet again -/
theorem wpC_join {st : Stmt} {rest : List Stmt} (J : Shared → Prop) (h : wpC M A (exec st env) (fun f s' => match f with | .next => J s' | f => Q f s') E s)
    (k : ∀ s', J s' → wpC M A (execs rest env) Q E s') : wpC M A (execs (st :: rest) env) Q E s := by
  refine wpC_execs_cons (wpC_mono h (fun f s' h' => ?_) fun _ _ x => x)
  cases f <;> first | exact k _ h' | exact h'
end
theorem frAt {h₀ h : Heap} {L : Addr} {m : Str → Option Value} {x : Str} {v : Value} (F : Fr h₀ L h m) (e : m x = some v) : Fr h₀ L h (fun y => if y = x then some v else m y) := by
  have : (fun y => if y = x then some v else m y) = m := by
    funext y
    split
    · next h => rw [h, e]
    · rfl
  rw [this]
  exact F
end Mine
end
example : (0 : Nat) = 0 := by w_top off; first | walk1 | rfl
-- part PC
section
open PySem PySem.W PyProof.Rows PySem.Calls PySem.Spec
open PySem.Builtin.Str
namespace Mine
theorem int_len (c : Percent) (h1 : c.alt = false) (h2 : c.type = 100 ∨ c.type = 105 ∨ c.type = 117) (h3 : c.prec = none) (b : Bool) (d : List Nat) (hd : d.length ≤ 22) : (percentInt c b d).length ≤ 64 := by
  unfold percentInt
  rcases h2 with h2 | h2 | h2 <;> cases b <;> simp [h1, h2, h3] <;> omega
section
variable {M : Model} {A : Around} {E : Value → Shared → Prop} {s : Shared} {l : List Nat} {p : List Value} {r : List Nat}
  {f : Nat → List Value × Writer × List Nat → Sem (ForInStep (List Value × Writer × List Nat))} {Q : List Value × Writer × List Nat → Shared → Prop}
  {w : Writer} {T x y : PySem.Str} {N K : Nat} {o : Option Value}
theorem after_intB {c : Percent} {n : Int} {d : List Nat} (g : KPc.Good w T N) (h1 : c.alt = false) (h2 : c.type = 100 ∨ c.type = 105 ∨ c.type = 117) (h3 : c.prec = none) (hm : n.natAbs < 10 ^ 22)
    (hd : d = (PySem.Str.ofString (toString ((n.natAbs : Nat) : Int))).cps.toList) (ho : o = none) (h : ∀ w', KPc.Good w' (T ++ ⟨(percentInt c (decide (n < 0)) d).toArray⟩) (N + 64) → wpAny M A (forIn l (p, w', r) f) Q E s) :
    wpAny M A (forIn l (p, w.add ⟨(percentInt c (decide (n < 0)) d).toArray⟩ o, r) f) Q E s := by
  have hl : d.length ≤ 22 := by
    have := toString_length_le (v := ((n.natAbs : Nat) : Int)) (k := 22) (by omega) (by decide) (by simp only [Nat.reducePow] at hm; simp only [Int.reducePow]; omega)
    rw [hd]
    simpa [PySem.Str.length] using this
  have hl2 : (⟨(percentInt c (decide (n < 0)) d).toArray⟩ : PySem.Str).length ≤ 64 := by
    have := int_len c h1 h2 h3 (decide (n < 0)) d hl
    simpa [PySem.Str.length] using this
  exact h _ (KPc.good_mono (KPc.good_add g (KPc.obj_none ho)) (Nat.add_le_add_left hl2 _))
end
local macro_rules | `(tactic| kpc_piece) => `(tactic| (refine after_intB (by kpc_g) rfl (by kpc_kind) rfl (by with_reducible assumption) rfl (by kpc_none) ?_; intro _ _))
abbrev tooBig : PySem.Str := ⟨#[86, 97, 108, 117, 101, 32, 37, 100, 32, 105, 115, 32, 116, 111, 111, 32, 98, 105, 103, 32, 97, 110, 100, 32, 99, 97, 110, 110, 111, 116, 32, 98, 101, 32, 101, 110, 99, 111, 100, 101, 100, 32, 97, 115, 32, 118, 105, 110, 116]⟩
theorem tooBig_is : Str.ofString "Value %d is too big and cannot be encoded as vint" = tooBig := by decide +kernel
set_option maxHeartbeats 4000000 in
theorem pct_meets (n : Int) (hm : n.natAbs < 10 ^ 22) (hd : n.natAbs.log2 < 1920) (hd2 : ((n.natAbs : Nat) : Int).natAbs.log2 < 1920) (t u : Tok) :
    ∃ T, Meets (Builtin.«str.__mod__» ⟨[.str tooBig t, .int n u], []⟩) (fun _ R s => ∀ t' k, R (.ok (.ret (.str T t'))) { s with toks := k }) := by
  refine' ⟨_, ?m⟩
  case m => k_dflt kpc_run
theorem mod_big {prog : Program} {w : World} {A : Around} {E : Value → Shared → Prop} {s : Shared} {n : Int} {t u : Tok} {Q : Value → Shared → Prop} (h0 : -1180591620717411303424 < n) (h1 : n < 1180591620717411303424)
    (h : ∀ T t' k, Q (.str T t') { s with toks := k }) : wpAny (model prog w) A (binaryOp .Mod (.str (Str.ofString "Value %d is too big and cannot be encoded as vint") t) (.int n u)) Q E s := by
  have hm : n.natAbs < 10 ^ 22 := by simp only [Nat.reducePow]; omega
  have hd : n.natAbs.log2 < 1920 := by
    by_cases hz : n.natAbs = 0
    · rw [hz]; decide
    · rw [Nat.log2_lt hz]
      exact Nat.lt_of_lt_of_le hm (by decide)
  obtain ⟨T, hT⟩ := pct_meets n hm hd hd t u
  exact KPc.mod_lit tooBig_is hd (fun _ _ => hT) (h T)
theorem raisedK_N {base : Heap} {l : List Env} {e t : Addr} {cls : Value} {vs : List Value} {news : List (Addr × Obj)} {h : Heap} (R : RaisedK base l e cls t vs news h) : RaisedN base l e cls news h := by
  obtain ⟨⟨B, b1, b2, b3, _⟩, _⟩ := R
  exact ⟨B, _, b1, b2, b3⟩
end Mine
end
example : (0 : Nat) = 0 := by w_top off; first | walk1 | rfl
-- part U
section
open PySem PySem.W PyProof.Rows PySem.Calls PySem.Spec
namespace Mine
example : PySem.Challenge.rw_vj0002_01 = PySem.Challenge.rw_vj0002_01 ∧ hd.heap_39 = hd.heap_39 := by k_fill; exact ⟨rfl, rfl⟩
local macro_rules | `(tactic| walk_at "KswPost") => `(tactic| refine unhold ?_)
local macro_rules | `(tactic| walk_at "binaryOp Mod str int") => `(tactic| refine unhold ?_)
local macro_rules | `(tactic| walk_at "inplaceOp LShift int int") => `(tactic| ((with_reducible refine ilshift_int ?kbn ?kbs ?_); (case kbn => decide); (case kbs => (refine shl_fits ?_ ?_ ?_ <;> first | assumption | omega | decide))))
local macro_rules | `(tactic| walk_at "binaryOp LShift int int") => `(tactic| ((with_reducible refine lshift_int ?kbn ?kbs ?_); (case kbn => omega); (case kbs => (refine shl_fits ?_ ?_ ?_ <;> first | assumption | omega | decide))))
local macro_rules | `(tactic| walk_at "binaryOp RShift int int") => `(tactic| ((with_reducible refine rshift_int ?_ ?_); first | decide | omega | (with_reducible assumption)))
local macro_rules | `(tactic| walk_at "call type:bytes") => `(tactic| refine unhold ?_)
local macro_rules | `(tactic| k_all) => `(tactic| with_reducible assumption)
local macro_rules | `(tactic| ktr_room) => `(tactic| omega)
structure PSt where
  j : Nat
  te : Tok
  tb : Tok
  tr : Tok
  tv : Tok
def PP (val : Int) (c : PSt) : Prop := c.j ≤ 9 ∧ (c.j = 0 ∨ ((8 : Int) - (if (c.j : Int) < 8 then (c.j : Int) else 8) < (Builtin.Int.intBits val : Int) - 8 * ((c.j : Int) - 1)))
theorem abs_is (v : Int) : (if v < 0 then -v else v) = ((v.natAbs : Nat) : Int) := by split <;> omega
def UJ (g1 : Heap) (L1 V : Addr) (news : List (Addr × Obj)) (val : Int) (s s' : Shared) : Prop :=
  ∃ h' tk' m₁ ns, s' = { s with heap := h', toks := tk' } ∧ Fr g1 L1 h' m₁ ∧ m₁ (Str.ofString "rv") = some (.ref V) ∧ News g1 L1 h' ((V, baObj ns) :: news) ∧ ns.reverse = laid val ∧ val < 18446744073709551616
section
variable {prog : Program} {w : World} {mean : ExcName → Option Value} {mg mb : Str → Option Value} {news : List (Addr × Obj)} 
   {dp un : Nat} {gd : Option (List Code)} {cn : Str} {cs : Scope} {a : Addr} {ccd : Value} {cl : List (Str × Addr)} {outer : List Env} {A₀ : Around} {base h₀ : Heap} {L : Addr} {m : Str → Option Value} {s : Shared} {Q E : Value → Shared → Prop}
    (B : Below A₀ base outer h₀) (F : Fr h₀ L s.heap m) (X : (hd.heap_39 w.params).In h₀) (N : News h₀ L s.heap news) (T : Top hd.view_39 (looseW hd.view_39 []) mean mg mb h₀) (hk : cs.kind = .function)
    (hd1 : dp + 4 < recursionLimit) (hu : un + 30 < cLine)
include B F X N T hk hd1 hu

set_option maxHeartbeats 600000 in
theorem upack_ok {val : Int} {tv : Tok} (h0 : 0 ≤ val) (h1 : val < 1180591620717411303424)
    (hret : val < 18446744073709551616 → RetV h₀ L m news s Q fun t => .bytes (byteArr (laid val)) t)
    (hexc : 18446744073709551616 ≤ val → RetE base h₀ L m (envX cn cs L a ccd cl :: outer) news s E "ValueError") :
    wpC (model prog w) (ktrTop dp un gd cn cs L a ccd cl outer) (call (.ref 54) [.int val tv]) Q E s := by
  refine wpC_call ?_
  k_dflt (refine' code_defC ?k1 ?k2 ?k3 ?k4 ?k5 ?kA ?kF ?kK ?k6 ?k7 ?k8 ?k9 ?kB ?_ ?c2 ?c3 ?c4 ?c5; (case kA => exact rfl); (case kF => exact rfl); (case kK => assumption); (case k1 => k_asm); (case k2 => k_asm); (case k3 => k_asm); (case k4 => k_asm); (case k5 => k_asm); (case k6 => k_is); (case k7 => k_is); (case k8 => ktr_room); (case k9 => exact BindsTo.of_eq rfl); (case c5 => decide); (case kB => exact locs rfl); (case c2 => exact rfl); (case c3 => exact rfl); (case c4 => exact rfl); k_whole)
  intro g1 L1 h3 FG F1 N1 B1 X1 T1
  dsimp only
  k_lift B1
  generalize s.toks + (List.filterMap _ _).length = tk0
  refine letC ?_
  intro qk ek
  refine wpC_execs_cons (wpC_Assign_Name (wpC_Call ?_))
  k_steps
  with_reducible rename Fr g1 L1 _ _ => F1
  with_reducible rename News g1 L1 _ _ => N1
  refine callWithC_type rfl (wpC_any (evalArgs_nil3 ?_))
  dsimp only [List.nil_append]
  refine callC_bytearray_K F1 N1 fun V hp tk F2 N2 lV => ?_
  have hne : ∀ p ∈ news, p.1 ≠ V := fun p hp => Nat.ne_of_lt (lV p hp)
  clear F1 N1
  dsimp only
  k_steps
  with_reducible rename Fr g1 L1 _ _ => F2
  with_reducible rename News g1 L1 _ _ => N2
  dsimp only at F2 ⊢
  refine wpC_join (UJ g1 L1 V news val s) (wpC_If ?_) ?_
  · k_steps
    · with_reducible rename Fr g1 L1 _ _ => F3
      with_reducible rename News g1 L1 _ _ => N3
      refine wpC_execs_cons (appendC (rest := news) F3 (V := V) rfl N3 (.head _) (by decide) rfl rfl rfl ?_)
      k_steps
      with_reducible rename Fr g1 L1 _ _ => F3
      with_reducible rename News g1 L1 _ _ => N3
      refine ⟨val, tv, _, _, rfl, h0, by omega, F3, N3, .head _, fun p hp => ⟨.tail _ hp, hne p hp⟩, fun h4 F4 N4 => ?_⟩
      dsimp only
      refine wpC_execs_nil ?_
      exact ⟨h4, _, _, _, rfl, F4, rfl, N4, by rw [laid_small (by assumption)]; rfl, by omega⟩
    · refine wpC_stmt ?_
      k_steps
      with_reducible rename Fr g1 L1 _ _ => F3
      with_reducible rename News g1 L1 _ _ => N3
      dsimp only at F3 ⊢
      refine wpC_stmt ?_
      k_steps
      with_reducible rename Fr g1 L1 _ _ => F3
      with_reducible rename News g1 L1 _ _ => N3
      dsimp only at F3 ⊢
      refine wpC_stmt ?_
      k_steps
      with_reducible rename Fr g1 L1 _ _ => F3
      with_reducible rename News g1 L1 _ _ => N3
      dsimp only at F3 ⊢
      refine wpC_stmt ?_
      k_steps
      with_reducible rename Fr g1 L1 _ _ => F3
      with_reducible rename News g1 L1 _ _ => N3
      dsimp only at F3 ⊢
      obtain ⟨tb, eb⟩ : ∃ t, mapAt F3 (Str.ofString "num_bits") = some (.int ((Builtin.Int.intBits val : Int)) t) := ⟨_, rfl⟩
      obtain ⟨te, ee⟩ : ∃ t, mapAt F3 (Str.ofString "num_extra_bytes") = some (.int 0 t) := ⟨_, rfl⟩
      obtain ⟨tr, et⟩ : ∃ t, mapAt F3 (Str.ofString "reserved_bits") = some (.int 1 t) := ⟨_, rfl⟩
      refine wpC_execs_cons ?_
      have N4 : News g1 L1 _ ((V, baObj (KTBy.little 0 val)) :: news) := N3
      refine (kswC_while (σ := PSt) (fun c => (V, baObj (KTBy.little c.j val)) :: news) (fun c => [(Str.ofString "num_extra_bytes", .int c.j c.te), (Str.ofString "num_bits", .int ((Builtin.Int.intBits val : Int) - 8 * (c.j : Int)) c.tb), (Str.ofString "reserved_bits", .int (if (c.j : Int) + 1 < 8 then (c.j : Int) + 1 else 8) c.tr), (Str.ofString "v", .int (val / 256 ^ c.j) c.tv), (Str.ofString "rv", .ref V), (Str.ofString "val", .int val tv)]) (fun _ => True)
        [] (PP val) (fun c => 10 - c.j) ⟨0, te, tb, tr, tv⟩ F3 N4 trivial ?_ ?_ ?_)
      · refine List.forall_mem_cons.mpr ⟨ee, List.forall_mem_cons.mpr ⟨?_, List.forall_mem_cons.mpr ⟨et, List.forall_mem_cons.mpr ⟨?_, List.forall_mem_cons.mpr ⟨rfl, List.forall_mem_cons.mpr ⟨rfl, List.forall_mem_nil _⟩⟩⟩⟩⟩⟩
        · show mapAt F3 _ = some (.int ((Builtin.Int.intBits val : Int) - 8 * ((0 : Nat) : Int)) tb)
          rw [eb]; simp
        · show mapAt F3 _ = some (.int (val / 256 ^ 0) tv)
          rw [Int.pow_zero, Int.ediv_one]; rfl
      · exact ⟨by show (0 : Nat) ≤ 9; omega, .inl rfl⟩
      · rintro ⟨j, te2, tb2, tr2, tv2⟩ u h6 tk6 _ ⟨p0, p1⟩ F6 N6
        dsimp only [kstB] at p0 p1 F6 N6 ⊢
        k_steps
        · dsimp only
          refine wpC_stmt ?_
          k_steps
          with_reducible rename Fr g1 L1 _ _ => F7
          with_reducible rename News g1 L1 _ _ => N7
          dsimp only at F7 ⊢
          refine wpC_stmt ?_
          k_steps
          with_reducible rename Fr g1 L1 _ _ => F7
          with_reducible rename News g1 L1 _ _ => N7
          dsimp only at F7 ⊢
          refine wpC_stmt ?_
          k_steps
          with_reducible rename Fr g1 L1 _ _ => F7
          with_reducible rename News g1 L1 _ _ => N7
          dsimp only at F7 ⊢
          obtain ⟨v5, tr5, hv5, ev⟩ : ∃ v t, mapAt F7 (Str.ofString "reserved_bits") = some (.int v t) ∧ v = if ((j + 1 : Nat) : Int) + 1 < 8 then ((j + 1 : Nat) : Int) + 1 else 8 := by
            refine ⟨_, _, rfl, ?_⟩
            split <;> split <;> omega
          refine wpC_execs_cons (appendC (rest := news) F7 (V := V) rfl N7 (.head _) (by rw [KTBy.little_length]; omega) rfl rfl rfl ?_)
          k_steps
          with_reducible rename Fr g1 L1 _ _ => F7
          with_reducible rename News g1 L1 _ _ => N7
          refine ⟨_, _, _, _, rfl, ?_, ?_, F7, N7, .head _, fun p hp => ⟨.tail _ hp, hne p hp⟩, fun h8 F8 N8 => ?_⟩
          · rw [bitAnd_m8]; omega
          · rw [bitAnd_m8]; omega
          dsimp only at F8 ⊢
          rw [bitAnd_m8, ← little_snoc] at N8
          refine wpC_stmt ?_
          k_steps
          with_reducible rename Fr g1 L1 _ _ => F9
          with_reducible rename News g1 L1 _ _ => N9
          dsimp only at F9 ⊢
          refine wpC_execs_nil ?_
          obtain ⟨te5, hte⟩ : ∃ t, mapAt F9 (Str.ofString "num_extra_bytes") = some (.int ((j + 1 : Nat) : Int) t) := ⟨_, rfl⟩
          obtain ⟨tb5, htb⟩ : ∃ t, mapAt F9 (Str.ofString "num_bits") = some (.int ((Builtin.Int.intBits val : Int) - 8 * ((j + 1 : Nat) : Int)) t) := by
            obtain ⟨v, t, e, ev⟩ : ∃ v t, mapAt F9 (Str.ofString "num_bits") = some (.int v t) ∧ v = (Builtin.Int.intBits val : Int) - 8 * ((j + 1 : Nat) : Int) := ⟨_, _, rfl, by omega⟩
            exact ⟨t, ev ▸ e⟩
          obtain ⟨tv5, htv⟩ : ∃ t, mapAt F9 (Str.ofString "v") = some (.int (val / 256 ^ (j + 1)) t) := by
            obtain ⟨v, t, e, ev⟩ : ∃ v t, mapAt F9 (Str.ofString "v") = some (.int v t) ∧ v = val / 256 ^ (j + 1) := ⟨_, _, rfl, div_next val j⟩
            exact ⟨t, ev ▸ e⟩
          have hj8 : j ≤ 8 := by
            have b70 := (bits_le h0 70).mpr (by simpa using h1)
            with_reducible rename (8 : Int) - _ < _ => hc
            split at hc <;> omega
          rw [ev] at hv5
          refine ksw_end (σ := PSt) ⟨j + 1, te5, tb5, tr5, tv5⟩ F9 N9 (fun _ hp => hp) trivial ?_ ?_ ⟨by show j + 1 ≤ 9; omega, .inr ?_⟩ (by show 10 - (j + 1) < 10 - j; omega)
          · exact List.forall_mem_cons.mpr ⟨hte, List.forall_mem_cons.mpr ⟨htb, List.forall_mem_cons.mpr ⟨hv5, List.forall_mem_cons.mpr ⟨htv, List.forall_mem_cons.mpr ⟨rfl, List.forall_mem_cons.mpr ⟨rfl, List.forall_mem_nil _⟩⟩⟩⟩⟩⟩
          · ksw_same
          · with_reducible rename (8 : Int) - _ < _ => hc
            show (8 : Int) - (if ((j + 1 : Nat) : Int) < 8 then ((j + 1 : Nat) : Int) else 8) < (Builtin.Int.intBits val : Int) - 8 * (((j + 1 : Nat) : Int) - 1)
            split at hc <;> split <;> omega
        · dsimp only
          have hb70 := (bits_le h0 70).mpr (by simpa using h1)
          with_reducible rename ¬ ((8 : Int) - _ < _) => hc
          refine wpC_stmt ?_
          k_steps
          · unfold Hold
            with_reducible rename (8 : Int) < (j : Int) => hj9
            have hbig : 18446744073709551616 ≤ val := by
              have ej : j = 9 := by omega
              subst ej
              exact big_of_bits h0 (by simpa using p1)
            refine mod_big (by omega) h1 fun T t' k => ?_
            dsimp only
            k_steps
            with_reducible rename RaisedK _ _ _ _ _ _ _ _ => hR
            with_reducible rename g1.UpToSlots _ => hU
            exact hexc hbig _ _ _ (raisedN_sub (raisedK_N hR) fun p hp => .tail _ hp) ⟨_, FG, hU⟩
          · with_reducible rename ¬ ((8 : Int) < (j : Int)) => hj8
            obtain ⟨em, hlt⟩ := more_of_bits h0 (by omega) hc (by simpa using p1)
            dsimp only
            with_reducible rename Fr g1 L1 _ _ => F7
            with_reducible rename News g1 L1 _ _ => N7
            obtain ⟨top1, top2, top3⟩ := top_is h0 hlt
            rw [em] at top1 top2 top3
            refine wpC_stmt ?_
            k_steps
            with_reducible rename Fr g1 L1 _ _ => F7
            with_reducible rename News g1 L1 _ _ => N7
            dsimp only at F7 ⊢
            refine wpC_stmt ?_
            k_steps
            with_reducible rename Fr g1 L1 _ _ => F7
            with_reducible rename News g1 L1 _ _ => N7
            dsimp only at F7 ⊢
            refine wpC_execs_cons (appendC (rest := news) F7 (V := V) rfl N7 (.head _) (by rw [KTBy.little_length]; omega) rfl rfl rfl ?_)
            have e8 : ((8 : Int) - (j : Int)).toNat = 8 - j := by omega
            rw [← e8] at top1
            k_steps
            with_reducible rename Fr g1 L1 _ _ => F7
            with_reducible rename News g1 L1 _ _ => N7
            refine ⟨_, _, _, _, rfl, ?_, ?_, F7, N7, .head _, fun p hp => ⟨.tail _ hp, hne p hp⟩, fun h8 F8 N8 => ?_⟩
            · rw [abs_is, top1, e8]; exact top3
            · rw [abs_is, top1, e8]; exact top2
            dsimp only at F8 N8 ⊢
            refine wpC_execs_nil ?_
            dsimp only
            refine ⟨h8, _, _, _, rfl, F8, rfl, N8, ?_, hlt⟩
            rw [← laid_is val, em, abs_is, top1, e8]
  · rintro _ ⟨h4, tk4, m4, ns, rfl, F4, e4, N4, er, hlt⟩
    refine wpC_stmt (reverse_K (rest := news) F4 e4 N4 (.head _) ?_ rfl rfl rfl (fun p hp => ⟨.tail _ hp, hne p hp⟩) fun h5 F5 N5 => ?_)
    · have := congrArg List.length er
      rw [List.length_reverse, laid_length] at this
      have := more_le val
      omega
    · dsimp only
      rw [er] at N5
      have F6 := frAt F5 e4
      clear F5
      replace N5 : News g1 L1 h5 ((V, baObj (laid val)) :: news) := N5
      refine wpC_stmt ?_
      k_steps
      unfold Hold
      with_reducible rename Fr g1 L1 _ _ => F6
      refine bytes_ba_K (ns := laid val) N5 (.head _) (by rw [laid_length]; have := more_le val; omega) ?_
      k_steps
      with_reducible rename Fr h₀ L _ _ => kF
      with_reducible rename News h₀ L _ _ => kN
      exact hret hlt _ _ _ kF (kst_newsOf kN fun p hp => .tail _ hp)
end
end Mine
end
example : (0 : Nat) = 0 := by w_top off; first | walk1 | rfl
-- part VP
section
open PySem PySem.W PyProof.Rows PySem.Calls PySem.Spec
namespace Mine
example : PySem.Challenge.rw_vj0002_01 = PySem.Challenge.rw_vj0002_01 ∧ hd.heap_39 = hd.heap_39 := by k_fill; exact ⟨rfl, rfl⟩
local macro_rules | `(tactic| walk_at "call ref") => `(tactic| refine unhold ?_)
local macro_rules | `(tactic| walk_at "KswPost") => `(tactic| refine unhold ?_)
local macro_rules | `(tactic| walk_at "binaryOp Mod str int") => `(tactic| refine unhold ?_)
local macro_rules | `(tactic| walk_at "inplaceOp LShift int int") => `(tactic| ((with_reducible refine ilshift_int ?kbn ?kbs ?_); (case kbn => decide); (case kbs => (refine shl_fits ?_ ?_ ?_ <;> first | assumption | omega | decide))))
local macro_rules | `(tactic| walk_at "binaryOp LShift int int") => `(tactic| ((with_reducible refine lshift_int ?kbn ?kbs ?_); (case kbn => omega); (case kbs => (refine shl_fits ?_ ?_ ?_ <;> first | assumption | omega | decide))))
local macro_rules | `(tactic| walk_at "binaryOp RShift int int") => `(tactic| ((with_reducible refine rshift_int ?_ ?_); first | decide | omega | (with_reducible assumption)))
local macro_rules | `(tactic| walk_at "call type:bytes") => `(tactic| refine unhold ?_)
local macro_rules | `(tactic| k_all) => `(tactic| with_reducible assumption)
local macro_rules | `(tactic| ktr_room) => `(tactic| omega)
theorem nameG_B {M : Model} {A : Around} {K : Frag} {mg mb : Str → Option Value} {p : Program} {loose : List Str} {mean : ExcName → Option Value} {x : Str} {pos : Pos} {v : Value} {Q : Value → Shared → Prop} {E : Value → Shared → Prop} {s : Shared} {h₀ : Heap} {L : Addr} {m : Str → Option Value} {env : Env} (F : Fr h₀ L s.heap m) (X : K.In h₀) (T : Top p loose mean mg mb h₀)
    (e : nsIn K mainGlobals x = some none) (hv : bootBuiltins x = some v) (hn : x ≠ "__name__") (h : Q v s) (hk : env.scope.kind = .function) (hg : env.globals = mainGlobals) (hb : env.builtins = builtinsNs) (hx : env.kindOf x = some .globalImplicit) (hd : (x == ("__debug__" : Str)) = false) : wpAny M A (eval (.Name x pos) env) Q E s :=
  Name_function_global hk hx (loadGlobal_builtin (hg ▸ T.g.keeps F.keep) (mg_none_of X T.g e) (hb ▸ T.b.keeps F.keep) ((T.builtins x hn).trans hv) h) hd
local macro_rules | `(tactic| walk_at "eval Name") => `(tactic| (k_here; k_inBlock; (with_reducible rename Fr _ _ _ _ => kF); k_dflt (refine' nameG_B kF ?k1 ?k2 ?k3 ?k8 ?k9 ?_ ?k4 ?k5 ?kb ?k6 ?k7; (case k4 => rfl); (case k5 => rfl); (case kb => rfl); (case k6 => rfl); (case k7 => decide); (case k1 => k_asm); (case k2 => k_asm); (case k3 => k_is); (case k8 => boot_by_name); (case k9 => decide); k_whole)))
local macro_rules | `(tactic| walk_at "exec Assign cons ListComp") => `(tactic| (k_here; (try k_iter_made); (with_reducible apply Assign_ListComp_DCn); (case hsw => with_unfolding_all rfl); (case hL => with_unfolding_all rfl); (case hh => with_unfolding_all rfl); (case hclos => with_unfolding_all rfl); (case hcell => decide); (case hkind => with_unfolding_all rfl); (case hnames => decide); (case hx => with_unfolding_all rfl); (case hy => with_unfolding_all rfl); (case hp => with_unfolding_all rfl); (case hs => intro _; with_unfolding_all rfl); (case' h => with_reducible refine wpAny_compPack ?_)))
theorem forC_name {prog : Program} {w : World} {A : Around} {E : Value → Shared → Prop} {Q : Flow → Shared → Prop} {s : Shared} {env : Env} {h₀ : Heap} {x y : Str} {body : List Stmt} {σ : Type} {px py pos : Pos} {l : Addr} {vs : List Value} {ns : List Int} {nn : Nat} {m₀ : Str → Option Value} (Led : σ → List (Addr × Obj)) (ps : σ → List (Str × Value)) (Facts : σ → Prop) (stored : List Str) (P : List Int → σ → Prop) (c₀ : σ)
    (F : Fr h₀ env.locals s.heap m₀) (N : News h₀ env.locals s.heap (Led c₀)) (hky : env.scope.kind = .function) (hly : env.kindOf y = some .local) (hdy : (y == ("__debug__" : Str)) = false) (hy : m₀ y = some (.ref l))
    (hx : env.kindOf x = some .local) (hp' : (env.scope.kind == .class || (env.scope.kind == .module && env.locals != env.globals)) = false) (hh : A.handled = none) (hl : ∀ c : σ, (l, listOf vs.toArray nn) ∈ Led c) (hled : ∀ c : σ, (Led c).map (·.1) = (Led c₀).map (·.1)) (hi : IntsAre vs ns)
    (hf : Facts c₀) (hk : ∀ p ∈ ps c₀, m₀ p.1 = some p.2) (hp : P [] c₀)
    (turn : ∀ (c : σ) pre post n t (u : Str → Option Value) h tk I o, ns = pre ++ n :: post → (∀ p ∈ Led c, I ≠ p.1) → Facts c → P pre c →
      Fr h₀ env.locals h (fun y => if y = x then some (.int n t) else kstB (fun z => if stored.contains z then u z else m₀ z) (ps c) y) → News h₀ env.locals h (Led c ++ [(I, o)]) →
      wpC (model prog w) A (execs body env) (fun f s₂ => match f with
        | .ret v => Q (.ret v) s₂
        | .brk => Q .next s₂
        | _ => ∃ (c' : σ) (h' : Heap) (tk' : Nat) (m' : Str → Option Value) (news' : List (Addr × Obj)), s₂ = { s with heap := h', toks := tk' } ∧ Fr h₀ env.locals h' m' ∧ News h₀ env.locals h' news' ∧ (∀ p ∈ Led c', p ∈ news') ∧ (I, o) ∈ news' ∧ Facts c' ∧ (∀ p ∈ ps c', m' p.1 = some p.2) ∧ (∀ z, z ≠ x → (∀ p ∈ ps c', z ≠ p.1) → stored.contains z = false → m' z = m₀ z) ∧ P (pre ++ [n]) c') E { s with heap := h, toks := tk })
    (done : ∀ (c : σ) (u : Str → Option Value) h tk, Facts c → P ns c → Fr h₀ env.locals h (fun y => if y = x then u y else kstB (fun z => if stored.contains z then u z else m₀ z) (ps c) y) → News h₀ env.locals h (Led c) → Q .next { s with heap := h, toks := tk })
    (hs : ∀ x, foldedSetIterable (.Name y py) env x = pure x := by intro _; rfl)
    (hE : PassesOwn (model prog w) A env E := by passes_own) :
    wpC (model prog w) A (exec (.For (.Name x px) (.Name y py) body [] pos) env) Q E s :=
  forC_listL Led ps Facts stored P c₀ hx hp' hh hl hled hi (fun _ hQ => wpAny_Name (wpAny_loadName_local hky hly F.ns hy (hQ s.heap s.toks F N)) hdy) hf hk hp turn done hs hE
structure VState where
  ns : List Int
def VJ (pre : List Int) (c : VState) : Prop := c.ns = pre.flatMap (fun n => (laid (zig n)).reverse) ∧ ∀ n ∈ pre, inR n
theorem vj_snoc {pre : List Int} {b : List Int} {n z : Int} (h : VJ pre ⟨b⟩) (hi : inR n) (e : z = zig n) : VJ (pre ++ [n]) ⟨b ++ (laid z).reverse⟩ := by
  obtain ⟨h1, h2⟩ := h
  refine ⟨?_, fun m hm => ?_⟩
  · show b ++ (laid z).reverse = _
    rw [List.flatMap_append, ← h1, e]
    simp
  · rcases List.mem_append.mp hm with hm | hm
    · exact h2 m hm
    · rw [List.mem_singleton.mp hm]; exact hi
theorem told_len (pre : List Int) : (pre.flatMap fun n => (laid (zig n)).reverse).length ≤ 9 * pre.length := by
  induction pre with
  | nil => simp
  | cons a r ih =>
    rw [List.flatMap_cons, List.length_append, List.length_reverse, laid_length, List.length_cons]
    have := more_le (zig a)
    omega
theorem vj_len {pre : List Int} {b : List Int} (h : VJ pre ⟨b⟩) : b.length ≤ 9 * pre.length := by
  have h1 : b = _ := h.1
  rw [h1]
  exact told_len pre
theorem told_rev {l : List Int} : (l.reverse.flatMap fun n => (laid (zig n)).reverse).reverse = l.flatMap fun n => laid (zig n) := by
  induction l with
  | nil => rfl
  | cons a r ih =>
    rw [List.reverse_cons, List.flatMap_append, List.reverse_append, ih, List.flatMap_cons]
    simp
section
variable {prog : Program} {w : World} {mean : ExcName → Option Value} {mg mb : Str → Option Value} {news : List (Addr × Obj)} 
   {dp un : Nat} {gd : Option (List Code)} {cn : Str} {cs : Scope} {a : Addr} {ccd : Value} {cl : List (Str × Addr)} {outer : List Env} {A₀ : Around} {base h₀ : Heap} {L l : Addr} {us : List Value} {nn : Nat} {m : Str → Option Value} {s : Shared} {Q E : Value → Shared → Prop}
    (B : Below A₀ base outer h₀) (F : Fr h₀ L s.heap m) (X : (hd.heap_39 w.params).In h₀) (N : News h₀ L s.heap ((l, W.listOf us.toArray nn) :: news)) (T : Top hd.view_39 (looseW hd.view_39 []) mean mg mb h₀) (hk : cs.kind = .function)
    (hd1 : dp + 4 < recursionLimit) (hu : un + 30 < cLine)
include B F X N T hk hd1 hu

set_option maxHeartbeats 600000 in
theorem vpack_ok {ns : List Int} (hU : IntsAre us ns) (hlen : ns.length ≤ 4) (hB : ∀ n ∈ ns, -147573952589676412928 < n ∧ n < 147573952589676412928)
    (hret : (∀ n ∈ ns, inR n) → RetV h₀ L m ((l, W.listOf us.toArray nn) :: news) s Q fun t => .bytes (byteArr (ns.flatMap fun n => laid (zig n))) t)
    (hexc : ¬ (∀ n ∈ ns, inR n) → RetE base h₀ L m (envX cn cs L a ccd cl :: outer) ((l, W.listOf us.toArray nn) :: news) s E "ValueError") :
    wpC (model prog w) (ktrTop dp un gd cn cs L a ccd cl outer) (call (.ref 40) [.ref l]) Q E s := by
  refine wpC_call ?_
  k_dflt (refine' code_defC ?k1 ?k2 ?k3 ?k4 ?k5 ?kA ?kF ?kK ?k6 ?k7 ?k8 ?k9 ?kB ?_ ?c2 ?c3 ?c4 ?c5; (case kA => exact rfl); (case kF => exact rfl); (case kK => assumption); (case k1 => k_asm); (case k2 => k_asm); (case k3 => k_asm); (case k4 => k_asm); (case k5 => k_asm); (case k6 => k_is); (case k7 => k_is); (case k8 => ktr_room); (case k9 => exact BindsTo.of_eq rfl); (case c5 => decide); (case kB => exact locs rfl); (case c2 => exact rfl); (case c3 => exact rfl); (case c4 => exact rfl); k_whole)
  intro g1 L1 h3 FG F1 N1 B1 X1 T1
  dsimp only
  k_lift B1
  generalize s.toks + (List.filterMap _ _).length = tk0
  refine letC ?_
  intro qk ek
  refine wpC_execs_cons (wpC_Assign_Name (wpC_Call ?_))
  k_steps
  with_reducible rename Fr g1 L1 _ _ => F1
  with_reducible rename News g1 L1 _ _ => N1
  refine callWithC_type rfl (wpC_any (evalArgs_nil3 ?_))
  dsimp only [List.nil_append]
  refine callC_bytearray_K F1 N1 fun V hp tk F2 N2 lV => ?_
  have hne : ∀ p ∈ news, p.1 ≠ V := fun p hp => Nat.ne_of_lt (lV p (.tail _ hp))
  have hlV : l ≠ V := Nat.ne_of_lt (lV _ (.head _))
  clear F1 N1
  dsimp only
  k_steps
  with_reducible rename Fr g1 L1 _ _ => F2
  with_reducible rename News g1 L1 _ _ => N2
  dsimp only at F2 ⊢
  refine wpC_stmt ?_
  k_steps
  with_reducible rename NewPlain _ _ _ _ => hP
  with_reducible rename CarriedAll _ _ => hC
  with_reducible rename Fr g1 _ _ _ => F3
  with_reducible rename News g1 _ _ _ => N3
  with_reducible rename g1.get? _ = none => hD0
  obtain ⟨kk, N4, nD⟩ := gn_enter hP F3 N3 hD0
  have hI := gn_ints (f := fun n : Int => n) hP hC (fun _ => rfl)
  rw [List.map_id'] at hI
  rename_i D ys h4 tk4 _
  clear hP hC
  obtain ⟨_, hDV, hDl, hDn⟩ := nD
  replace F3 : Fr g1 L1 _ _ := F3
  replace N4 : News g1 L1 h4 ((D, W.listOf ys.toArray kk) :: (V, baObj []) :: (l, W.listOf us.toArray nn) :: news) := fun p hp => by
    rcases List.mem_cons.mp hp with rfl | hp
    · exact N4 _ (.head _)
    · exact N4 p (.tail _ (.tail _ hp))
  dsimp only
  refine wpC_execs_cons ?_
  refine forC_name (σ := VState) (h₀ := g1) (l := D) (vs := ys) (ns := ns.reverse) (nn := kk) (fun c => (D, W.listOf ys.toArray kk) :: (V, baObj c.ns) :: (l, W.listOf us.toArray nn) :: news) (fun _ => [(Str.ofString "revbytes", .ref V)]) (fun _ => True)
    [Str.ofString "v", Str.ofString "num_extra_bytes", Str.ofString "num_bits", Str.ofString "reserved_bits", Str.ofString "n"] VJ ⟨[]⟩ F3 N4 rfl rfl rfl rfl rfl rfl rfl (fun _ => .head _) (fun _ => rfl) hI trivial ?_ ?_ ?_ ?_
  · exact List.forall_mem_cons.mpr ⟨rfl, List.forall_mem_nil _⟩
  · exact ⟨rfl, fun _ h => nomatch h⟩
  · rintro ⟨b⟩ pre post n tn u h5 tk5 I o e2 hIp _ hVJ F5 N5
    dsimp only [kstB] at hVJ F5 N5 hIp ⊢
    have hn9 : n ∈ ns := by
      have : n ∈ ns.reverse := by rw [e2]; exact List.mem_append_right _ (.head _)
      exact List.mem_reverse.mp this
    have hbl : b.length ≤ 36 := by
      have h1 := vj_len hVJ
      have h2 := congrArg List.length e2
      rw [List.length_reverse, List.length_append] at h2
      omega
    replace F5 : Fr g1 L1 h5 _ := F5
    obtain ⟨rest, hrest⟩ : ∃ rest : List (Addr × Obj), rest = (D, W.listOf ys.toArray kk) :: (l, W.listOf us.toArray nn) :: (news ++ [(I, o)]) := ⟨_, rfl⟩
    have hneR : ∀ p ∈ rest, p.1 ≠ V := by
      intro p hp
      rw [hrest] at hp
      rcases List.mem_cons.mp hp with rfl | hp
      · exact fun e => hDV e.symm
      rcases List.mem_cons.mp hp with rfl | hp
      · exact hlV
      rcases List.mem_append.mp hp with hp | hp
      · exact hne p hp
      · rw [List.mem_singleton.mp hp]; exact hIp (V, baObj b) (.tail _ (.head _))
    have hIR : (I, o) ∈ rest := by rw [hrest]; exact .tail _ (.tail _ (List.mem_append_right _ (.head _)))
    have hsubR : ∀ p ∈ (l, W.listOf us.toArray nn) :: news, p ∈ rest := by
      intro p hp
      rw [hrest]
      rcases List.mem_cons.mp hp with rfl | hp
      · exact .tail _ (.head _)
      · exact .tail _ (.tail _ (List.mem_append_left _ hp))
    have hledR : ∀ o', ∀ p ∈ (D, W.listOf ys.toArray kk) :: (V, o') :: (l, W.listOf us.toArray nn) :: news, p ∈ (V, o') :: rest := by
      intro o' p hp
      rcases List.mem_cons.mp hp with rfl | hp
      · rw [hrest]; exact .tail _ (.head _)
      rcases List.mem_cons.mp hp with rfl | hp
      · exact .head _
      · exact .tail _ (hsubR p hp)
    have N6 : News g1 L1 h5 ((V, baObj b) :: rest) := fun p hp => by
      rw [hrest] at hp
      refine N5 p ?_
      rcases List.mem_cons.mp hp with rfl | hp
      · exact .tail _ (.head _)
      rcases List.mem_cons.mp hp with rfl | hp
      · exact .head _
      rcases List.mem_cons.mp hp with rfl | hp
      · exact .tail _ (.tail _ (.head _))
      · exact .tail _ (.tail _ (.tail _ hp))
    clear N5 hrest
    refine wpC_stmt ?_
    k_steps
    with_reducible rename Fr g1 L1 _ _ => F7
    with_reducible rename News g1 L1 _ _ => N7
    unfold Hold
    with_unfolding_all refine' enc_ok B1 F7 X1 N7 T1 rfl ?_ ?_ ?_ ?_ ?_
    · show dp + 1 + 1 < recursionLimit
      omega
    · show un + 3 + 8 < cLine
      omega
    · intro tz h9 tk9 F9 N9
      dsimp only
      have hz := hB n hn9
      have hzi : inR n → Builtin.bitXor (n * 2) (n.fdiv (2 ^ 63)) = zig n := fun hi => (zig_in hi.1 hi.2).1
      have hzo : (¬ inR n → 18446744073709551616 ≤ Builtin.bitXor (n * 2) (n.fdiv (2 ^ 63))) ∧ (inR n → Builtin.bitXor (n * 2) (n.fdiv (2 ^ 63)) < 18446744073709551616) :=
        ⟨fun hi => (zig_out hi hz.1 hz.2).1, fun hi => by rw [(zig_in hi.1 hi.2).1]; exact (zig_in hi.1 hi.2).2.2⟩
      have h01 : 0 ≤ Builtin.bitXor (n * 2) (n.fdiv (2 ^ 63)) ∧ Builtin.bitXor (n * 2) (n.fdiv (2 ^ 63)) < 1180591620717411303424 := by
        by_cases hi : inR n
        · rw [(zig_in hi.1 hi.2).1]; have := (zig_in hi.1 hi.2).2; omega
        · have := zig_out hi hz.1 hz.2; omega
      generalize Builtin.bitXor (n * 2) (n.fdiv (2 ^ 63)) = z at hzi hzo h01 ⊢
      obtain ⟨h0, h1⟩ := h01
      k_steps
      with_reducible rename Fr g1 L1 _ _ => F3
      with_reducible rename News g1 L1 _ _ => N3
      dsimp only at F3 ⊢
      refine wpC_execs_cons (wpC_If ?_)
      k_steps
      · with_reducible rename Fr g1 L1 _ _ => F3
        with_reducible rename News g1 L1 _ _ => N3
        refine wpC_execs_cons (appendC (rest := rest) F3 (V := V) rfl N3 (.head _) (by omega) rfl rfl rfl ?_)
        k_steps
        with_reducible rename Fr g1 L1 _ _ => F3
        with_reducible rename News g1 L1 _ _ => N3
        refine ⟨z, _, _, _, rfl, h0, by omega, F3, N3, .head _, fun p hp => ⟨.tail _ hp, hneR p hp⟩, fun h8 F8 N8 => ?_⟩
        dsimp only
        refine wpC_execs_nil ?_
        dsimp only
        refine wpC_execs_nil ?_
        dsimp only
        have hin : inR n := by
          by_cases hq : inR n
          · exact hq
          · have := hzo.1 hq; omega
        have el : (laid z).reverse = [z] := by rw [laid_small (by assumption)]; rfl
        refine ⟨⟨b ++ (laid z).reverse⟩, h8, _, _, _, rfl, F8, N8, ?_, .tail _ hIR, trivial, ?_, ?_, ?_⟩
        · dsimp only
          rw [el]
          exact hledR _
        · exact List.forall_mem_cons.mpr ⟨rfl, List.forall_mem_nil _⟩
        · (intro y h2 h3 h4
           simp only [List.forall_mem_cons, List.not_mem_nil, false_implies, implies_true, and_true, ne_eq] at h3
           simp only [List.contains_cons, List.contains_nil, Bool.or_false, Bool.or_eq_false_iff, beq_eq_false_iff_ne, ne_eq] at h4
           simp [h2, h3, h4])
        · exact vj_snoc hVJ hin (hzi hin)
      · refine wpC_stmt ?_
        k_steps
        with_reducible rename Fr g1 L1 _ _ => F3
        with_reducible rename News g1 L1 _ _ => N3
        dsimp only at F3 ⊢
        refine wpC_stmt ?_
        k_steps
        with_reducible rename Fr g1 L1 _ _ => F3
        with_reducible rename News g1 L1 _ _ => N3
        dsimp only at F3 ⊢
        refine wpC_stmt ?_
        k_steps
        with_reducible rename Fr g1 L1 _ _ => F3
        with_reducible rename News g1 L1 _ _ => N3
        dsimp only at F3 ⊢
        obtain ⟨tb, eb⟩ : ∃ t, mapAt F3 (Str.ofString "num_bits") = some (.int ((Builtin.Int.intBits z : Int)) t) := ⟨_, rfl⟩
        obtain ⟨te, ee⟩ : ∃ t, mapAt F3 (Str.ofString "num_extra_bytes") = some (.int 0 t) := ⟨_, rfl⟩
        obtain ⟨tr, et⟩ : ∃ t, mapAt F3 (Str.ofString "reserved_bits") = some (.int 1 t) := ⟨_, rfl⟩
        refine wpC_execs_cons ?_
        have eb0 : b ++ KTBy.little 0 z = b := by rw [show KTBy.little 0 z = [] from rfl, List.append_nil]
        have N4 := N3
        rw [← eb0] at N4
        refine (kswC_while (σ := PSt) (fun c => (V, baObj (b ++ KTBy.little c.j z)) :: rest) (fun c => [(Str.ofString "num_extra_bytes", .int c.j c.te), (Str.ofString "num_bits", .int ((Builtin.Int.intBits z : Int) - 8 * (c.j : Int)) c.tb), (Str.ofString "reserved_bits", .int (if (c.j : Int) + 1 < 8 then (c.j : Int) + 1 else 8) c.tr), (Str.ofString "v", .int (z / 256 ^ c.j) c.tv), (Str.ofString "revbytes", .ref V), (Str.ofString "value", .int n tn)]) (fun _ => True)
          [] (PP z) (fun c => 10 - c.j) ⟨0, te, tb, tr, tz⟩ F3 N4 trivial ?_ ?_ ?_)
        · refine List.forall_mem_cons.mpr ⟨ee, List.forall_mem_cons.mpr ⟨?_, List.forall_mem_cons.mpr ⟨et, List.forall_mem_cons.mpr ⟨?_, List.forall_mem_cons.mpr ⟨rfl, List.forall_mem_cons.mpr ⟨rfl, List.forall_mem_nil _⟩⟩⟩⟩⟩⟩
          · show mapAt F3 _ = some (.int ((Builtin.Int.intBits z : Int) - 8 * ((0 : Nat) : Int)) tb)
            rw [eb]; simp
          · show mapAt F3 _ = some (.int (z / 256 ^ 0) tz)
            rw [Int.pow_zero, Int.ediv_one]; rfl
        · exact ⟨by show (0 : Nat) ≤ 9; omega, .inl rfl⟩
        · rintro ⟨j, te2, tb2, tr2, tv2⟩ u h6 tk6 _ ⟨p0, p1⟩ F6 N6
          dsimp only [kstB] at p0 p1 F6 N6 ⊢
          k_steps
          · dsimp only
            refine wpC_stmt ?_
            k_steps
            with_reducible rename Fr g1 L1 _ _ => F7
            with_reducible rename News g1 L1 _ _ => N7
            dsimp only at F7 ⊢
            refine wpC_stmt ?_
            k_steps
            with_reducible rename Fr g1 L1 _ _ => F7
            with_reducible rename News g1 L1 _ _ => N7
            dsimp only at F7 ⊢
            refine wpC_stmt ?_
            k_steps
            with_reducible rename Fr g1 L1 _ _ => F7
            with_reducible rename News g1 L1 _ _ => N7
            dsimp only at F7 ⊢
            obtain ⟨v5, tr5, hv5, ev⟩ : ∃ v t, mapAt F7 (Str.ofString "reserved_bits") = some (.int v t) ∧ v = if ((j + 1 : Nat) : Int) + 1 < 8 then ((j + 1 : Nat) : Int) + 1 else 8 := by
              refine ⟨_, _, rfl, ?_⟩
              split <;> split <;> omega
            refine wpC_execs_cons (appendC (rest := rest) F7 (V := V) rfl N7 (.head _) (by rw [List.length_append, KTBy.little_length]; omega) rfl rfl rfl ?_)
            k_steps
            with_reducible rename Fr g1 L1 _ _ => F7
            with_reducible rename News g1 L1 _ _ => N7
            refine ⟨_, _, _, _, rfl, ?_, ?_, F7, N7, .head _, fun p hp => ⟨.tail _ hp, hneR p hp⟩, fun h8 F8 N8 => ?_⟩
            · rw [bitAnd_m8]; omega
            · rw [bitAnd_m8]; omega
            dsimp only at F8 ⊢
            rw [bitAnd_m8, List.append_assoc, ← little_snoc] at N8
            refine wpC_stmt ?_
            k_steps
            with_reducible rename Fr g1 L1 _ _ => F9
            with_reducible rename News g1 L1 _ _ => N9
            dsimp only at F9 ⊢
            refine wpC_execs_nil ?_
            obtain ⟨te5, hte⟩ : ∃ t, mapAt F9 (Str.ofString "num_extra_bytes") = some (.int ((j + 1 : Nat) : Int) t) := ⟨_, rfl⟩
            obtain ⟨tb5, htb⟩ : ∃ t, mapAt F9 (Str.ofString "num_bits") = some (.int ((Builtin.Int.intBits z : Int) - 8 * ((j + 1 : Nat) : Int)) t) := by
              obtain ⟨v, t, e, ev⟩ : ∃ v t, mapAt F9 (Str.ofString "num_bits") = some (.int v t) ∧ v = (Builtin.Int.intBits z : Int) - 8 * ((j + 1 : Nat) : Int) := ⟨_, _, rfl, by omega⟩
              exact ⟨t, ev ▸ e⟩
            obtain ⟨tv5, htv⟩ : ∃ t, mapAt F9 (Str.ofString "v") = some (.int (z / 256 ^ (j + 1)) t) := by
              obtain ⟨v, t, e, ev⟩ : ∃ v t, mapAt F9 (Str.ofString "v") = some (.int v t) ∧ v = z / 256 ^ (j + 1) := ⟨_, _, rfl, div_next z j⟩
              exact ⟨t, ev ▸ e⟩
            have hj8 : j ≤ 8 := by
              have b70 := (bits_le h0 70).mpr (by simpa using h1)
              with_reducible rename (8 : Int) - _ < _ => hc
              split at hc <;> omega
            rw [ev] at hv5
            refine ksw_end (σ := PSt) ⟨j + 1, te5, tb5, tr5, tv5⟩ F9 N9 (fun _ hp => hp) trivial ?_ ?_ ⟨by show j + 1 ≤ 9; omega, .inr ?_⟩ (by show 10 - (j + 1) < 10 - j; omega)
            · exact List.forall_mem_cons.mpr ⟨hte, List.forall_mem_cons.mpr ⟨htb, List.forall_mem_cons.mpr ⟨hv5, List.forall_mem_cons.mpr ⟨htv, List.forall_mem_cons.mpr ⟨rfl, List.forall_mem_cons.mpr ⟨rfl, List.forall_mem_nil _⟩⟩⟩⟩⟩⟩
            · ksw_same
            · with_reducible rename (8 : Int) - _ < _ => hc
              show (8 : Int) - (if ((j + 1 : Nat) : Int) < 8 then ((j + 1 : Nat) : Int) else 8) < (Builtin.Int.intBits z : Int) - 8 * (((j + 1 : Nat) : Int) - 1)
              split at hc <;> split <;> omega
          · dsimp only
            have hb70 := (bits_le h0 70).mpr (by simpa using h1)
            with_reducible rename ¬ ((8 : Int) - _ < _) => hc
            refine wpC_stmt ?_
            k_steps
            · unfold Hold
              with_reducible rename (8 : Int) < (j : Int) => hj9
              have hbig : 18446744073709551616 ≤ z := by
                have ej : j = 9 := by omega
                subst ej
                exact big_of_bits h0 (by simpa using p1)
              refine mod_big (by have := (hB n hn9).1; omega) (by have := (hB n hn9).2; omega) fun T t' k => ?_
              dsimp only
              k_steps
              with_reducible rename RaisedK _ _ _ _ _ _ _ _ => hR
              with_reducible rename g1.UpToSlots _ => hU
              exact hexc (fun hall => by have := hzo.2 (hall n hn9); omega) _ _ _ (raisedN_sub (raisedK_N hR) fun p hp => .tail _ (hsubR p hp)) ⟨_, FG, hU⟩
            · with_reducible rename ¬ ((8 : Int) < (j : Int)) => hj8
              obtain ⟨em, hlt⟩ := more_of_bits h0 (by omega) hc (by simpa using p1)
              dsimp only
              with_reducible rename Fr g1 L1 _ _ => F7
              with_reducible rename News g1 L1 _ _ => N7
              obtain ⟨top1, top2, top3⟩ := top_is h0 hlt
              rw [em] at top1 top2 top3
              refine wpC_stmt ?_
              k_steps
              with_reducible rename Fr g1 L1 _ _ => F7
              with_reducible rename News g1 L1 _ _ => N7
              dsimp only at F7 ⊢
              refine wpC_stmt ?_
              k_steps
              with_reducible rename Fr g1 L1 _ _ => F7
              with_reducible rename News g1 L1 _ _ => N7
              dsimp only at F7 ⊢
              refine wpC_execs_cons (appendC (rest := rest) F7 (V := V) rfl N7 (.head _) (by rw [List.length_append, KTBy.little_length]; omega) rfl rfl rfl ?_)
              have e8 : ((8 : Int) - (j : Int)).toNat = 8 - j := by omega
              rw [← e8] at top1
              k_steps
              with_reducible rename Fr g1 L1 _ _ => F7
              with_reducible rename News g1 L1 _ _ => N7
              refine ⟨_, _, _, _, rfl, ?_, ?_, F7, N7, .head _, fun p hp => ⟨.tail _ hp, hneR p hp⟩, fun h8 F8 N8 => ?_⟩
              · rw [abs_is, top1, e8]; exact top3
              · rw [abs_is, top1, e8]; exact top2
              dsimp only at F8 N8 ⊢
              refine wpC_execs_nil ?_
              dsimp only
              refine wpC_execs_nil ?_
              dsimp only
              have hin : inR n := by
                by_cases hq : inR n
                · exact hq
                · have := hzo.1 hq; omega
              have ez : z = zig n := hzi hin
              refine ⟨⟨b ++ (laid z).reverse⟩, h8, _, _, _, rfl, F8, N8, ?_, .tail _ hIR, trivial, ?_, ?_, ?_⟩
              · rw [← laid_is z, List.reverse_reverse, em]
                have et : b ++ (KTBy.little j z ++ [256 - 2 ^ (8 - j) + z / 256 ^ j]) = b ++ KTBy.little j z ++ [(if Builtin.bitOr (z / 256 ^ j) (Int.fdiv 255 (2 ^ ((8 : Int) - (j : Int)).toNat) * 2 ^ ((8 : Int) - (j : Int)).toNat) < 0 then -Builtin.bitOr (z / 256 ^ j) (Int.fdiv 255 (2 ^ ((8 : Int) - (j : Int)).toNat) * 2 ^ ((8 : Int) - (j : Int)).toNat) else Builtin.bitOr (z / 256 ^ j) (Int.fdiv 255 (2 ^ ((8 : Int) - (j : Int)).toNat) * 2 ^ ((8 : Int) - (j : Int)).toNat))] := by
                  rw [abs_is, top1, e8, List.append_assoc]
                dsimp only
                rw [et]
                exact hledR _
              · exact List.forall_mem_cons.mpr ⟨rfl, List.forall_mem_nil _⟩
              · (intro y h2 h3 h4
                 simp only [List.forall_mem_cons, List.not_mem_nil, false_implies, implies_true, and_true, ne_eq] at h3
                 simp only [List.contains_cons, List.contains_nil, Bool.or_false, Bool.or_eq_false_iff, beq_eq_false_iff_ne, ne_eq] at h4
                 simp [h2, h3, h4])
              · exact vj_snoc hVJ hin ez
    · have := (hB n hn9).1; omega
    · have := (hB n hn9).2; omega
  · rintro ⟨b⟩ u h5 tk5 _ hVJ F5 N5
    dsimp only [kstB] at hVJ F5 N5 ⊢
    replace F5 : Fr g1 L1 h5 _ := F5
    have hall : ∀ n ∈ ns, inR n := fun n hn => hVJ.2 n (List.mem_reverse.mpr hn)
    have hb9 : b.reverse = ns.flatMap fun n => laid (zig n) := by
      have h1 : b = _ := hVJ.1
      rw [h1]
      exact told_rev
    have hbl : b.length ≤ 36 := by
      have h1 := vj_len hVJ
      rw [List.length_reverse] at h1
      omega
    refine wpC_stmt (reverse_K (rest := (l, W.listOf us.toArray nn) :: news) (V := V) (ns := b) F5 rfl N5 (.tail _ (.head _)) (by omega) rfl rfl rfl ?_ fun h6 F6 N6 => ?_)
    · intro p hp
      refine ⟨.tail _ (.tail _ hp), ?_⟩
      rcases List.mem_cons.mp hp with rfl | hp
      · exact hlV
      · exact hne p hp
    · dsimp only
      rw [hb9] at N6
      replace F6 : Fr g1 L1 h6 _ := F6
      replace N6 : News g1 L1 h6 _ := N6
      refine wpC_stmt ?_
      k_steps
      unfold Hold
      refine bytes_ba_K (ns := ns.flatMap fun n => laid (zig n)) N6 (.head _) ?_ ?_
      · rw [← hb9, List.length_reverse]; omega
      · k_steps
        with_reducible rename Fr h₀ L _ _ => kF
        with_reducible rename News h₀ L _ _ => kN
        exact hret hall _ _ _ kF (kst_newsOf kN fun p hp => .tail _ hp)
end
end Mine
end
example : (0 : Nat) = 0 := by w_top off; first | walk1 | rfl
-- part CR3
section
open PySem PySem.W PyProof.Rows PySem.Calls PySem.Spec
namespace Mine
section
variable {prog : Program} {w : World} {A : Around} {E : Value → Shared → Prop} {Q : Flow → Shared → Prop} {s : Shared} {env : Env} {h₀ : Heap} {x : Str} {body : List Stmt}
set_option maxHeartbeats 1000000 in
/-- a loop over a list of ints that lies in the ledger, in clean contexts -/
theorem forC2_listL {σ : Type} {px pos : Pos} {iter : Expr} {l : Addr} {vs : List Value} {ns : List Int} {nn : Nat} {m₀ : Str → Option Value} (Led : σ → List (Addr × Obj)) (ps : σ → List (Str × Value)) (Facts : σ → Prop) (stored : List Str) (P : List Int → σ → Prop) (c₀ : σ)
    (hx : env.kindOf x = some .local) (hp' : (env.scope.kind == .class || (env.scope.kind == .module && env.locals != env.globals)) = false) (hh : A.handled = none) (hl : ∀ c : σ, (l, listOf vs.toArray nn) ∈ Led c) (hi : IntsAre vs ns)
    (he : ∀ Q' : Value → Shared → Prop, (∀ h tk, Fr h₀ env.locals h m₀ → News h₀ env.locals h (Led c₀) → Q' (.ref l) { s with heap := h, toks := tk }) → wpAny (model prog w) A (eval iter env) Q' E s)
    (hf : Facts c₀) (hk : ∀ p ∈ ps c₀, m₀ p.1 = some p.2) (hp : P [] c₀)
    (turn : ∀ (c : σ) pre post n t (u : Str → Option Value) h tk I o, ns = pre ++ n :: post → (∀ p ∈ Led c, I ≠ p.1) → Facts c → P pre c →
      Fr h₀ env.locals h (fun y => if y = x then some (.int n t) else kstB (fun z => if stored.contains z then u z else m₀ z) (ps c) y) → News h₀ env.locals h (Led c ++ [(I, o)]) →
      wpC (model prog w) A (execs body env) (fun f s₂ => match f with
        | .ret v => Q (.ret v) s₂
        | .brk => Q .next s₂
        | _ => ∃ (c' : σ) (h' : Heap) (tk' : Nat) (m' : Str → Option Value) (news' : List (Addr × Obj)), s₂ = { s with heap := h', toks := tk' } ∧ Fr h₀ env.locals h' m' ∧ News h₀ env.locals h' news' ∧ (∀ p ∈ Led c', p ∈ news' ∧ I ≠ p.1) ∧ (I, o) ∈ news' ∧ Facts c' ∧ (∀ p ∈ ps c', m' p.1 = some p.2) ∧ (∀ z, z ≠ x → (∀ p ∈ ps c', z ≠ p.1) → stored.contains z = false → m' z = m₀ z) ∧ P (pre ++ [n]) c') E { s with heap := h, toks := tk })
    (done : ∀ (c : σ) (u : Str → Option Value) h tk, Facts c → P ns c → Fr h₀ env.locals h (fun y => if y = x then u y else kstB (fun z => if stored.contains z then u z else m₀ z) (ps c) y) → News h₀ env.locals h (Led c) → Q .next { s with heap := h, toks := tk })
    (hs : ∀ x, foldedSetIterable iter env x = pure x := by intro _; rfl)
    (hE : PassesOwn (model prog w) A env E := by passes_own) :
    wpC (model prog w) A (exec (.For (.Name x px) iter body [] pos) env) Q E s := by
  refine wpC_For (he _ fun h1 tk1 F N => ?_) hs
  have hol : h1.get? l = some (listOf vs.toArray nn) := (N _ (hl c₀)).1
  have hls : h1.IsList l vs.toArray := ⟨_, hol, rfl, nn, rfl⟩
  have hne : l ≠ h1.objs.size := Nat.ne_of_lt (Heap.lt_size hol)
  refine wpAny_pyIter_list (s := { s with heap := h1, toks := tk1 }) hls ?_
  have W := Walks.list (prog := prog) (w := w) hh h1.objs.size l hne vs.toArray
  have hlen : vs.toArray.size = ns.length := by rw [List.size_toArray, hi.length]
  rw [hlen] at W
  have hIL : h1.objs.size ≠ env.locals := fun e => absurd F.ns.lt (e ▸ Nat.lt_irrefl _)
  have hIh : h₀.get? h1.objs.size = none := next_is_new F
  have hIn0 : ∀ p ∈ Led c₀, h1.objs.size ≠ p.1 := fun p hp e => absurd (Heap.lt_size (N p hp).1) (by rw [← e]; exact Nat.lt_irrefl _)
  have old : ∀ b o, h₀.get? b = some o → b ∉ [h1.objs.size] := fun b o e hb => by rw [List.mem_singleton.mp hb, hIh] at e; cases e
  refine codeC_forLoop
    (fun k s' => ∃ (h' : Heap) (tk : Nat) (c : σ) (m' : Str → Option Value) (i : Nat), s' = { s with heap := h', toks := tk } ∧ h'.IsListIter h1.objs.size l i ∧ Fr h₀ env.locals h' m' ∧ News h₀ env.locals h' (Led c) ∧ (∀ p ∈ Led c, h1.objs.size ≠ p.1) ∧ Facts c ∧ (∀ p ∈ ps c, m' p.1 = some p.2) ∧ (∀ z, z ≠ x → (∀ p ∈ ps c, z ≠ p.1) → stored.contains z = false → m' z = m₀ z) ∧ P (ns.take i) c ∧ i ≤ ns.length ∧ k = ns.length + 1 - i) ?_ (ns.length + 1)
    ⟨_, _, c₀, m₀, 0, rfl, ⟨_, Heap.get?_push_size _ rfl, rfl, rfl⟩, F.push _, (fun p hp => ⟨Heap.get?_push_of_some _ (N p hp).1, (N p hp).2⟩), hIn0, hf, hk, fun _ _ _ _ => rfl, by rw [List.take_zero]; exact hp, Nat.zero_le _, rfl⟩
  rintro k s' ⟨h', tk, c, m', i, rfl, hst', F', N', hIn, hf', hk1, hk2, hP, hi9, rfl⟩
  have hst2 : h'.IsListIter h1.objs.size l i ∧ h'.IsList l vs.toArray := ⟨hst', ⟨_, (N' _ (hl c)).1, rfl, nn, rfl⟩⟩
  have next : ∀ h₂ : Heap, (∀ b o, b ∉ [h1.objs.size] → h'.get? b = some o → h₂.get? b = some o) → Fr h₀ env.locals h₂ m' ∧ News h₀ env.locals h₂ (Led c) := fun h₂ hk₂ =>
    ⟨⟨F'.ns.at' fun o e => hk₂ _ o (fun hb => hIL (List.mem_singleton.mp hb).symm) e, fun b o e => hk₂ b o (old b o e) (F'.keep b o e), F'.above⟩,
      fun p hp => ⟨hk₂ _ _ (fun hb => hIn p hp (List.mem_singleton.mp hb).symm) (N' p hp).1, (N' p hp).2⟩⟩
  by_cases hlt : i < ns.length
  · refine W.item i { s with heap := h', toks := tk } _ _ hlt hst2 fun v h₂ tk₂ hPv hst₂ hk₂ => ?_
    obtain ⟨F₂, N₂⟩ := next h₂ hk₂
    refine wpAny_assign_Name (wpAny_storeName_local hx F₂.ns (fun h₃ hn₃ hs₃ => ?_) hp')
    have F₃ := F₂.set hn₃ hs₃
    have N₃ := N₂.set hs₃
    obtain ⟨oI, hoI, hcI, hdI⟩ := hst₂.1
    have hoI3 : h₃.get? h1.objs.size = some oI := (hs₃.2 _ hIL).trans hoI
    obtain ⟨t, rfl⟩ := item_at hi hlt hPv
    have hs9 := take_at hlt
    have e := split_at hlt
    have NI : News h₀ env.locals h₃ (Led c ++ [(h1.objs.size, oI)]) := fun p hp => by
      rcases List.mem_append.mp hp with hp | hp
      · exact N₃ p hp
      · rw [List.mem_singleton.mp hp]; exact ⟨hoI3, hIL, hIh⟩
    refine wpC_mono (turn c (ns.take i) _ ns[i] t m' h₃ _ h1.objs.size oI e hIn hf' hP (kst_fr hk1 hk2 F₃) NI) (fun f s₃ h₃ => ?_) hE
    cases f with
    | ret v => exact h₃
    | brk => exact h₃
    | cont =>
      obtain ⟨c', h'', tk'', m'', news'', rfl, F4, N4, hn4, ho4, hf4, hk4, hr4, hp4⟩ := h₃
      exact ⟨ns.length + 1 - (i + 1), by omega, h'', tk'', c', m'', i + 1, rfl, ⟨_, (N4 _ ho4).1, hcI, hdI⟩, F4, fun p hp => N4 p (hn4 p hp).1, fun p hp => (hn4 p hp).2, hf4, hk4, hr4, hs9 ▸ hp4, hlt, rfl⟩
    | next =>
      obtain ⟨c', h'', tk'', m'', news'', rfl, F4, N4, hn4, ho4, hf4, hk4, hr4, hp4⟩ := h₃
      exact ⟨ns.length + 1 - (i + 1), by omega, h'', tk'', c', m'', i + 1, rfl, ⟨_, (N4 _ ho4).1, hcI, hdI⟩, F4, fun p hp => N4 p (hn4 p hp).1, fun p hp => (hn4 p hp).2, hf4, hk4, hr4, hs9 ▸ hp4, hlt, rfl⟩
  · have hin : i = ns.length := by omega
    subst hin
    refine W.done { s with heap := h', toks := tk } _ _ hst2 fun h₂ tk₂ hk₂ => ?_
    obtain ⟨F₂, N₂⟩ := next h₂ hk₂
    rw [List.take_length] at hP
    exact done c m' h₂ tk₂ hf' hP (kst_frOut hk1 hk2 F₂) N₂
end
end Mine
end
example : (0 : Nat) = 0 := by w_top off; first | walk1 | rfl
-- part LS
section
open PySem PySem.W PyProof.Rows PySem.Calls PySem.Spec
namespace Mine
theorem pow_le_65 {e : Nat} (h : e ≤ 65) : (0 : Int) < 2 ^ e ∧ (2 : Int) ^ e ≤ 36893488147419103232 := by
  refine ⟨Int.pow_pos (by omega), ?_⟩
  have : (2 : Int) ^ e ≤ 2 ^ 65 := by
    rw [p2, p2]
    exact Int.ofNat_le.mpr (Nat.pow_le_pow_right (by omega) h)
  simpa using this
theorem item_bound (n c d : Int) : -147573952589676412928 < 1 * 2 ^ (n.fmod 66).toNat * (c.fmod 3 - 1) + d.fmod 7 - 3 ∧ 1 * 2 ^ (n.fmod 66).toNat * (c.fmod 3 - 1) + d.fmod 7 - 3 < 147573952589676412928 := by
  rw [Int.fmod_eq_emod_of_nonneg _ (by omega), Int.fmod_eq_emod_of_nonneg _ (by omega), Int.fmod_eq_emod_of_nonneg _ (by omega)]
  obtain ⟨p0, p1⟩ := pow_le_65 (e := (n % 66).toNat) (by omega)
  generalize (2 : Int) ^ (n % 66).toNat = p at p0 p1
  have h3 : c % 3 - 1 = -1 ∨ c % 3 - 1 = 0 ∨ c % 3 - 1 = 1 := by omega
  rcases h3 with h | h | h <;> rw [h] <;> omega
def J3 (g : Heap) (L D Du Wa C : Addr) (ys : List Value) (o : Obj) (s s' : Shared) : Prop :=
  ∃ (h' : Heap) (tk' : Nat) (m' : Str → Option Value) (vs : List Value) (vals : List Int) (k : Nat), s' = { s with heap := h', toks := tk' } ∧ Fr g L h' m' ∧ m' (Str.ofString "numbers") = some (.ref D) ∧ m' (Str.ofString "wanted") = some (.ref Wa) ∧ m' (Str.ofString "due") = some (.ref Du) ∧
    News g L h' [(Wa, W.listOf vs.toArray k), (Du, W.listOf #[] 0), (D, LCg.lst ys), (C, o)] ∧ IntsAre vs vals ∧ vals.length ≤ 4 ∧ ∀ n ∈ vals, -147573952589676412928 < n ∧ n < 147573952589676412928
structure WSt where
  vs : List Value
  vals : List Int
  k : Nat
def WP (pre : List Int) (c : WSt) : Prop := c.vals.length = pre.length ∧ ∀ n ∈ c.vals, -147573952589676412928 < n ∧ n < 147573952589676412928
theorem wp_snoc {pre : List Int} {c : WSt} {k n : Int} {v : Value} {kk : Nat} (h : WP pre c) (hn : -147573952589676412928 < n ∧ n < 147573952589676412928) : WP (pre ++ [k]) ⟨c.vs ++ [v], c.vals ++ [n], kk⟩ := by
  obtain ⟨h1, h2⟩ := h
  refine ⟨by simp [h1], fun m hm => ?_⟩
  rcases List.mem_append.mp hm with hm | hm
  · exact h2 m hm
  · rw [List.mem_singleton.mp hm]; exact hn
theorem lw_perm {α : Type} {a b p : α} {r : List α} (h : p ∈ a :: b :: r) : p ∈ b :: a :: r := by
  rcases List.mem_cons.mp h with rfl | h
  · exact .tail _ (.head _)
  rcases List.mem_cons.mp h with rfl | h
  · exact .head _
  · exact .tail _ (.tail _ h)
end Mine
end
example : (0 : Nat) = 0 := by w_top off; first | walk1 | rfl
-- part CX
section
open PySem PySem.W PyProof.Rows PySem.Calls PySem.Spec
namespace Mine
section
variable {prog : Program} {w : World} {A : Around} {E : Value → Shared → Prop} {s' : Shared} {h₀ h : Heap} {outer : List Env} {L a e : Addr} {m : Str → Option Value} {name : Str} {scope : Scope} {cd : Value} {cl : List (Str × Addr)}
  {b₀ : Stmt} {suite : List Stmt} {pos np : Pos} {rest : List ExceptHandler} {Q : Flow → Shared → Prop} {news : List (Addr × Obj)}
  {p : Program} {loose : List Str} {mean : ExcName → Option Value} {mg mb : Str → Option Value} {x : Str} {X T' : String} {K : Frag}
/-- an exception of a built-in class is caught in a frame that may have cells -/
theorem caught_X (hA : A.frames = some (envX name scope L a cd cl :: outer)) (F : Fr h₀ L h m) (hsm : h.UpToSlots s'.heap) (R : RaisedN h₀ (envX name scope L a cd cl :: outer) e (.type X) news s'.heap)
    (XK : K.In h₀) (T : Top p loose mean mg mb h₀) (eg : nsIn K mainGlobals x = some none) (hv : bootBuiltins x = some (.type T')) (hn : x ≠ "__name__")
    (hexc : isSubtype (.type T') (.type "BaseException") = pure true) (hnt : isSubtype (.type ((Manifest.find? T').elim "type" fun y => y.metatype)) (.type "tuple") = pure false) (hsub : isSubtype (.type X) (.type T') = pure true)
    (k : ∀ h', Fr h₀ L h' m → News h₀ L h' news →
      wpAny (model prog w) (A.mark (some (.ref e))) (execs (b₀ :: suite) (envX name scope L a cd cl)) Q E { s' with heap := h' })
    (hk : scope.kind = .function := by rfl) (hx : (envX name scope L a cd cl).kindOf x = some .globalImplicit := by rfl) (hd : (x == ("__debug__" : Str)) = false := by decide)
    (hE : PassesOwnAt (model prog w) (A.mark (some (.ref e))) A (envX name scope L a cd cl) E := by passes_own) :
    wpAny (model prog w) A (noteFrame (.ref e) (envX name scope L a cd cl))
      (fun _ s₂ => wpAny (model prog w) A (setFlight (.ref e) none) (fun _ s₃ =>
        wpAny (model prog w) A (handleBy (.ref e) (envX name scope L a cd cl) (.ExceptHandler (some (.Name x np)) none (b₀ :: suite) pos :: rest)) Q E s₃) E s₂) E s' := by
  obtain ⟨B, a0, hB, hl, hfl⟩ := R
  have hL : B.get? L = none := by
    obtain ⟨_, ⟨L', _, hf, hn', _⟩, _⟩ := hfl.2.2.1
    obtain rfl : L = L' := Option.some.inj hf
    exact hn'
  refine wpAny_looks_onW hA rfl hfl fun h₄ hheld₄ hsm₄ => ?_
  refine wpAny_landsW hheld₄ fun h₅ hheld hsm₅' => ?_
  have hsm₅ := hsm₄.trans hsm₅'
  have hheld' := flyingW_base hB hheld
  have F₅ := F.of_stays hheld'.1 (hsm.trans hsm₅)
  obtain ⟨ob, hob, hobc⟩ := hheld'.there
  refine wpAny_handleBy_builtin (X := X) (T := T') (b := true) hexc hnt hsub (Name_function_global hk hx (loadGlobal_builtin (env := envX name scope L a cd cl) (T.g.keeps F₅.keep) (mg_none_of XK T.g eg) (T.b.keeps F₅.keep) ((T.builtins x hn).trans hv) ⟨rfl, ⟨ob, hob, hobc⟩, ?_⟩) hd)
  refine lands_againW hheld fun h₆ hfl₆ hsm₆ => ?_
  have F₆ := F.of_stays (flyingW_base hB hfl₆).1 ((hsm.trans hsm₅).trans hsm₆)
  exact wpAny_passesOwnAt hE (k h₆ F₆ fun q hq => ⟨hfl₆.1 _ _ (hl q hq).1, (fun z => by have := (hl q hq).1; rw [z, hL] at this; cases this), (hl q hq).2⟩)
end
end Mine
end
example : (0 : Nat) = 0 := by w_top off; first | walk1 | rfl
-- part LB
section
open PySem PySem.W PyProof.Rows PySem.Calls PySem.Spec
namespace Mine
/-- the law's own def, as the row holds it -/
def lawBody : List Stmt := match PySem.Challenge.pw_vj0002_01.main.body.getLast? with
  | some (.FunctionDef _ _ b _ _ _ _ _ _ _) => b
  | _ => []
def lawScope0 : Scope := match PySem.Challenge.pw_vj0002_01.main.body.getLast? with
  | some (.FunctionDef _ _ _ _ _ _ s _ _ _) => s
  | _ => default
def lawAt (k : Nat) : Stmt := lawBody.getD k (.Pass default)
def lawS : { s : Scope // s = lawScope0 } := ⟨⟨_, _, _, _, _⟩, rfl⟩
def law2 : { s : Stmt // s = lawAt 2 } := ⟨.For _ _ _ _ _, rfl⟩
def law3 : { s : Stmt // s = lawAt 3 } := ⟨.For _ _ _ _ _, rfl⟩
def law4 : { s : Stmt // s = lawAt 4 } := ⟨.Try _ _ _ _ _, rfl⟩
def law5 : { s : Stmt // s = lawAt 5 } := ⟨.If _ _ _ _, rfl⟩
def law6 : { s : Stmt // s = lawAt 6 } := ⟨.Assign _ _ _, rfl⟩
def law7 : { s : Stmt // s = lawAt 7 } := ⟨.Assign _ _ _, rfl⟩
def law8 : { s : Stmt // s = lawAt 8 } := ⟨.Try _ _ _ _ _, rfl⟩
def law9 : { s : Stmt // s = lawAt 9 } := ⟨.If _ _ _ _, rfl⟩
def law10 : { s : Stmt // s = lawAt 10 } := ⟨.If _ _ _ _, rfl⟩
def law11 : { s : Stmt // s = lawAt 11 } := ⟨.Try _ _ _ _ _, rfl⟩
def law12 : { s : Stmt // s = lawAt 12 } := ⟨.Return _ _, rfl⟩
abbrev lawEnv (L fa : Addr) (cdv : Value) : Env := envOfC (Str.ofString "law") lawS.1 L fa cdv
abbrev lawA (L fa : Addr) (cdv : Value) : Around := callerA.deeper (lawEnv L fa cdv)
abbrev lawE (prog : Program) (w : World) (L fa : Addr) (cdv : Value) (RE : Value → Shared → Prop) : Value → Shared → Prop :=
  fun e s' => wpAny (model prog w) (lawA L fa cdv) (leaving (lawEnv L fa cdv) e) (fun _ s'' => RE e s'') (fun e' s'' => RE e' s'') s'
abbrev sN : Str := Str.ofString "numbers"
abbrev sW : Str := Str.ofString "wanted"
abbrev sD : Str := Str.ofString "due"
abbrev sT : Str := Str.ofString "told"
abbrev sO : Str := Str.ofString "octets"
abbrev sP : Str := Str.ofString "plain"
abbrev Small (vals : List Int) : Prop := vals.length ≤ 4 ∧ ∀ n ∈ vals, -147573952589676412928 < n ∧ n < 147573952589676412928
abbrev told (vals : List Int) : List Int := vals.flatMap fun n => laid (zig n)
/-- what holds after the second statement -/
def J1 (g : Heap) (L D : Addr) (ys : List Value) (h' : Heap) : Prop :=
  ∃ (m : Str → Option Value) (Du Wa : Addr), Fr g L h' m ∧ m sN = some (.ref D) ∧ m sW = some (.ref Wa) ∧ m sD = some (.ref Du) ∧ D < Wa ∧ Wa < Du ∧ News g L h' [(Du, W.listOf #[] 0), (Wa, W.listOf #[] 0), (D, LCg.lst ys)]
/-- what holds after the third statement -/
def J2 (g : Heap) (L D : Addr) (ys : List Value) (h' : Heap) : Prop :=
  ∃ (m : Str → Option Value) (Du Wa : Addr) (vs : List Value) (vals : List Int) (k : Nat), Fr g L h' m ∧ m sN = some (.ref D) ∧ m sW = some (.ref Wa) ∧ m sD = some (.ref Du) ∧
    News g L h' [(Du, W.listOf #[] 0), (Wa, W.listOf vs.toArray k), (D, LCg.lst ys)] ∧ IntsAre vs vals ∧ Small vals
/-- .. the fourth -/
def J3' (g : Heap) (L D : Addr) (ys : List Value) (h' : Heap) : Prop :=
  ∃ (m : Str → Option Value) (Wa : Addr) (vs : List Value) (vals : List Int) (k : Nat), Fr g L h' m ∧ m sN = some (.ref D) ∧ m sW = some (.ref Wa) ∧ IntsAre vs vals ∧ Small vals ∧
    (((∀ n ∈ vals, inR n) ∧ ∃ (Du : Addr) (ds : List Value) (kd : Nat), m sD = some (.ref Du) ∧ IntsAre ds (told vals) ∧ News g L h' [(Du, W.listOf ds.toArray kd), (Wa, W.listOf vs.toArray k), (D, LCg.lst ys)]) ∨
     ((¬ ∀ n ∈ vals, inR n) ∧ m sD = some .none ∧ News g L h' [(Wa, W.listOf vs.toArray k), (D, LCg.lst ys)]))
/-- .. the fifth -/
def J4 (g : Heap) (L D : Addr) (ys : List Value) (h' : Heap) : Prop :=
  ∃ (m : Str → Option Value) (Wa : Addr) (vs : List Value) (vals : List Int) (k : Nat), Fr g L h' m ∧ m sN = some (.ref D) ∧ m sW = some (.ref Wa) ∧ IntsAre vs vals ∧ Small vals ∧
    (((∀ n ∈ vals, inR n) ∧ ∃ (Du To : Addr) (ds ts : List Value) (kd kt : Nat), m sD = some (.ref Du) ∧ m sT = some (.ref To) ∧ IntsAre ds (told vals) ∧ IntsAre ts (told vals) ∧ Du < To ∧ News g L h' [(To, W.listOf ts.toArray kt), (Du, W.listOf ds.toArray kd), (Wa, W.listOf vs.toArray k), (D, LCg.lst ys)]) ∨
     (m sD = some .none ∧ m sT = some .none ∧ News g L h' [(Wa, W.listOf vs.toArray k), (D, LCg.lst ys)]))
/-- .. the sixth -/
def J5 (g : Heap) (L D : Addr) (ys : List Value) (h' : Heap) : Prop :=
  ∃ (m : Str → Option Value), Fr g L h' m ∧ m sN = some (.ref D) ∧ News g L h' [(D, LCg.lst ys)]
/-- .. the seventh -/
def J6 (g : Heap) (L D : Addr) (ys : List Value) (h' : Heap) : Prop :=
  ∃ (m : Str → Option Value) (Oc : Addr) (os : List Value) (obs : List Int), Fr g L h' m ∧ m sN = some (.ref D) ∧ m sO = some (.ref Oc) ∧ IntsAre os obs ∧ InB obs ∧ obs.length ≤ 12 ∧ News g L h' [(Oc, LCg.lst os), (D, LCg.lst ys)]
/-- .. the eighth -/
def J7 (g : Heap) (L : Addr) (h' : Heap) : Prop :=
  ∃ (m : Str → Option Value) (Oc : Addr) (os : List Value) (obs : List Int) (p : Int) (t : Tok), Fr g L h' m ∧ m sO = some (.ref Oc) ∧ m sP = some (.int p t) ∧ IntsAre os obs ∧ InB obs ∧ obs.length ≤ 12 ∧ 0 ≤ p ∧ p < 1180591620717411303424 ∧ News g L h' [(Oc, LCg.lst os)]
/-- .. the ninth, and the tenth -/
def J8 (g : Heap) (L : Addr) (h' : Heap) : Prop :=
  ∃ (m : Str → Option Value) (Oc : Addr) (os : List Value) (obs : List Int) (p : Int) (t : Tok), Fr g L h' m ∧ m sO = some (.ref Oc) ∧ m sP = some (.int p t) ∧ IntsAre os obs ∧ InB obs ∧ obs.length ≤ 12 ∧ 0 ≤ p ∧
    ((p < 18446744073709551616 ∧ ∃ (To : Addr) (ts : List Value) (kt : Nat), m sT = some (.ref To) ∧ IntsAre ts (laid p) ∧ News g L h' [(To, W.listOf ts.toArray kt), (Oc, LCg.lst os)]) ∨
     (18446744073709551616 ≤ p ∧ m sT = some .none ∧ News g L h' [(Oc, LCg.lst os)]))
/-- .. the eleventh -/
def J10 (g : Heap) (L : Addr) (h' : Heap) : Prop :=
  ∃ (m : Str → Option Value) (Oc : Addr) (os : List Value) (obs : List Int), Fr g L h' m ∧ m sO = some (.ref Oc) ∧ IntsAre os obs ∧ InB obs ∧ obs.length ≤ 12 ∧ News g L h' [(Oc, LCg.lst os)]
/-- .. the twelfth -/
def J11 (g : Heap) (L : Addr) (h' : Heap) : Prop :=
  ∃ (m : Str → Option Value) (Oc : Addr) (os : List Value) (obs : List Int), Fr g L h' m ∧ m sO = some (.ref Oc) ∧ IntsAre os obs ∧ InB obs ∧ obs.length ≤ 12 ∧
    ((∃ (ns : List Int) (To : Addr) (ts : List Value) (kt : Nat), readL obs = some ns ∧ m sT = some (.ref To) ∧ IntsAre ts ns ∧ News g L h' [(To, W.listOf ts.toArray kt), (Oc, LCg.lst os)]) ∨
     (readL obs = none ∧ m sT = some .none ∧ News g L h' [(Oc, LCg.lst os)]))

theorem letAny {α : Type} {M : Model} {A : Around} {t : Sem α} {Q : α → Shared → Prop} {E : Value → Shared → Prop} {s : Shared} (h : let qk := Q; let ek := E; wpAny M A t qk ek s) : wpAny M A t Q E s := h

theorem kstB_same {m : Str → Option Value} {ps : List (Str × Value)} (h : ∀ p ∈ ps, m p.1 = some p.2) (y : Str) : kstB m ps y = m y := by
  induction ps with
  | nil => rfl
  | cons p r ih =>
    show (if y = p.1 then some p.2 else kstB m r y) = m y
    rw [ih fun q hq => h q (.tail _ hq)]
    split
    · next e => rw [e, h p (.head _)]
    · rfl
theorem frAts {h₀ h : Heap} {L : Addr} {m : Str → Option Value} (F : Fr h₀ L h m) (ps : List (Str × Value)) (e : ∀ p ∈ ps, m p.1 = some p.2) : Fr h₀ L h (kstB m ps) := by
  rw [show kstB m ps = m from funext (kstB_same e)]
  exact F
theorem frAt2 {h₀ h : Heap} {L : Addr} {m : Str → Option Value} {x y : Str} {v u : Value} (F : Fr h₀ L h m) (e : m x = some v) (e2 : m y = some u) : Fr h₀ L h (fun z => if z = x then some v else if z = y then some u else m z) :=
  frAts F [(x, v), (y, u)] (List.forall_mem_cons.mpr ⟨e, List.forall_mem_cons.mpr ⟨e2, List.forall_mem_nil _⟩⟩)
theorem frAt3 {h₀ h : Heap} {L : Addr} {m : Str → Option Value} {x y z : Str} {v u t : Value} (F : Fr h₀ L h m) (e : m x = some v) (e2 : m y = some u) (e3 : m z = some t) : Fr h₀ L h (fun a => if a = x then some v else if a = y then some u else if a = z then some t else m a) :=
  frAts F [(x, v), (y, u), (z, t)] (List.forall_mem_cons.mpr ⟨e, List.forall_mem_cons.mpr ⟨e2, List.forall_mem_cons.mpr ⟨e3, List.forall_mem_nil _⟩⟩⟩)
theorem frAt4 {h₀ h : Heap} {L : Addr} {m : Str → Option Value} {x y z b : Str} {v u t o : Value} (F : Fr h₀ L h m) (e : m x = some v) (e2 : m y = some u) (e3 : m z = some t) (e4 : m b = some o) : Fr h₀ L h (fun a => if a = x then some v else if a = y then some u else if a = z then some t else if a = b then some o else m a) :=
  frAts F [(x, v), (y, u), (z, t), (b, o)] (List.forall_mem_cons.mpr ⟨e, List.forall_mem_cons.mpr ⟨e2, List.forall_mem_cons.mpr ⟨e3, List.forall_mem_cons.mpr ⟨e4, List.forall_mem_nil _⟩⟩⟩⟩)
theorem holdP {α : Type} {M : Model} {A : Around} {t : Sem α} {Q : α → Shared → Prop} {E : Value → Shared → Prop} {s : Shared} (h : ∀ Q' : α → Shared → Prop, (∀ a s', Q a s' → Q' a s') → wpAny M A t Q' E s) : wpAny M A t Q E s := h Q fun _ _ x => x
theorem callWithC_fun2 {M : Model} {A : Around} {E : Value → Shared → Prop} {s : Shared} {pos : Pos} {a : Addr} {first : List Value} {args : List (Bool × Sem Value)} {Q : Value → Shared → Prop} (hplain : args.any (·.1) = false)
    (h : wpC M A (evalArgs (.ref a) true args []) (fun x s₁ => (∃ o fd, s₁.heap.get? a = some o ∧ o.data = .func fd) ∧ wpC M A (call (.ref a) (first ++ x.pos) x.kw) Q E s₁) E s) :
    wpC M A (callWith pos (.ref a) first args []) Q E s := by
  unfold callWith
  refine wpC_bind (wpC_holding (wpC_mono h (fun x s₁ h₁ => wpC_standAt ?_) fun _ _ x => x))
  obtain ⟨⟨o, fd, h0, h00⟩, h₁⟩ := h₁
  simp only [hplain, List.any_nil, Bool.or_false]
  refine wpC_then (m := keeperOf (.ref a)) ?_
  unfold keeperOf
  refine wpAny_bind (wpAny_load h0 ?_)
  rw [h00]
  refine wpAny_pure ?_
  have fin : ∀ m : Value, wpC M A (if args.length + 2 * ([] : List (Option Str × Sem Value)).length > 30 then call (.ref a) (first ++ x.pos) x.kw >>= fun r => holding [r] point >>= fun _ => pure r
      else callMarked m (.ref a) (first ++ x.pos) x.kw >>= fun r => holding [r] point >>= fun _ => pure r) Q E s₁ := fun m => by
    split
    · exact tailC h₁
    · refine tailC ?_
      unfold callMarked
      exact wpC_keep h₁
  split <;> first
    | exact tailC h₁
    | exact fin _
    | (refine tailC ?_; unfold callMarked; exact wpC_keep h₁)
    | (refine tailC ?_; exact wpC_operate h₁)
end Mine
end
example : (0 : Nat) = 0 := by w_top off; first | walk1 | rfl
-- part ST2
section
open PySem PySem.W PyProof.Rows PySem.Calls PySem.Spec
namespace Mine
example : PySem.Challenge.rw_vj0002_01 = PySem.Challenge.rw_vj0002_01 ∧ hd.heap_39 = hd.heap_39 := by k_fill; exact ⟨rfl, rfl⟩
local macro_rules | `(tactic| walk_at "call ref") => `(tactic| refine unhold ?_)
local macro_rules | `(tactic| walk_at "pyIter ref") => `(tactic| (k_here; (with_reducible show wpAny _ _ (pyIter (Value.ref _)) (fun _ _ => LoopAtV _ _ _ _ _ _ _ _ _ _ _) _ _); refine unhold ?_))
local macro_rules | `(tactic| walk_at "InvPostN") => `(tactic| refine unhold ?_)
local macro_rules | `(tactic| walk_at "call builtin:list.append") => `(tactic| refine unhold ?_)
local macro_rules | `(tactic| ktr_room) => `(tactic| omega)
section
variable {prog : Program} {w : World} {mean : ExcName → Option Value} {mg mb : Str → Option Value} {g : Heap} {L fa D : Addr} {ys : List Value} {ns : List Int} {cdv : Value} {s : Shared} {Q : Flow → Shared → Prop} {RE : Value → Shared → Prop}
  (K : Below callerA g [] g) (X : (hd.heap_39 w.params).In g) (T : Top hd.view_39 (looseW hd.view_39 []) mean mg mb g)
include K X T
set_option maxHeartbeats 1000000 in
theorem st2 (hns : IntsAre ys ns) (hlen : ns.length = 18) (J : J1 g L D ys s.heap) (hQ : ∀ h' tk', J2 g L D ys h' → Q .next { s with heap := h', toks := tk' }) :
    wpAny (model prog w) (lawA L fa cdv) (exec law2.1 (lawEnv L fa cdv)) Q (lawE prog w L fa cdv RE) s := by
  obtain ⟨m, Du, Wa, F, e1, e2, e3, l1, l2, N⟩ := J
  have F0 := frAt3 F e1 e2 e3
  clear F e1 e2 e3
  dsimp only [lawEnv, lawA, lawE, lawS, law2]
  refine letAny ?_
  intro qk ek
  k_steps
  all_goals
    with_reducible rename Fr _ _ _ _ => F3
    with_reducible rename News _ _ _ _ => N3
    with_reducible rename IsRange _ _ _ _ _ _ _ _ => hR
    unfold Hold
    dsimp only at hR F3 N3 ⊢
    first
      | refine kst_range (σ := WSt) (n := 0) (fun c => [(Du, W.listOf #[] 0), (Wa, W.listOf c.vs.toArray c.k), (D, LCg.lst ys)]) (fun _ => [(sN, .ref D), (sW, .ref Wa), (sD, .ref Du)]) (fun c => IntsAre c.vs c.vals) [Str.ofString "n"] WP ⟨[], [], 0⟩ rfl hR (by decide +kernel) (by decide +kernel) F3 N3 .nil ?_ ⟨rfl, fun _ h => nomatch h⟩ ?_ ?_
      | refine kst_range (σ := WSt) (n := 1) (fun c => [(Du, W.listOf #[] 0), (Wa, W.listOf c.vs.toArray c.k), (D, LCg.lst ys)]) (fun _ => [(sN, .ref D), (sW, .ref Wa), (sD, .ref Du)]) (fun c => IntsAre c.vs c.vals) [Str.ofString "n"] WP ⟨[], [], 0⟩ rfl hR (by decide +kernel) (by decide +kernel) F3 N3 .nil ?_ ⟨rfl, fun _ h => nomatch h⟩ ?_ ?_
      | refine kst_range (σ := WSt) (n := 2) (fun c => [(Du, W.listOf #[] 0), (Wa, W.listOf c.vs.toArray c.k), (D, LCg.lst ys)]) (fun _ => [(sN, .ref D), (sW, .ref Wa), (sD, .ref Du)]) (fun c => IntsAre c.vs c.vals) [Str.ofString "n"] WP ⟨[], [], 0⟩ rfl hR (by decide +kernel) (by decide +kernel) F3 N3 .nil ?_ ⟨rfl, fun _ h => nomatch h⟩ ?_ ?_
      | refine kst_range (σ := WSt) (n := 3) (fun c => [(Du, W.listOf #[] 0), (Wa, W.listOf c.vs.toArray c.k), (D, LCg.lst ys)]) (fun _ => [(sN, .ref D), (sW, .ref Wa), (sD, .ref Du)]) (fun c => IntsAre c.vs c.vals) [Str.ofString "n"] WP ⟨[], [], 0⟩ rfl hR (by decide +kernel) (by decide +kernel) F3 N3 .nil ?_ ⟨rfl, fun _ h => nomatch h⟩ ?_ ?_
      | refine kst_range (σ := WSt) (n := 4) (fun c => [(Du, W.listOf #[] 0), (Wa, W.listOf c.vs.toArray c.k), (D, LCg.lst ys)]) (fun _ => [(sN, .ref D), (sW, .ref Wa), (sD, .ref Du)]) (fun c => IntsAre c.vs c.vals) [Str.ofString "n"] WP ⟨[], [], 0⟩ rfl hR (by decide +kernel) (by decide +kernel) F3 N3 .nil ?_ ⟨rfl, fun _ h => nomatch h⟩ ?_ ?_
    · exact List.forall_mem_cons.mpr ⟨rfl, List.forall_mem_cons.mpr ⟨rfl, List.forall_mem_cons.mpr ⟨rfl, List.forall_mem_nil _⟩⟩⟩
    · rintro ⟨vs, vals, kk⟩ pre kv tk2 u h8 tk8 own ek2 hlt hoff hI hP F4 N4
      dsimp only [kstB] at hI hP F4 N4 ⊢
      dsimp only [List.cons_append, List.nil_append] at N4
      subst ek2
      k_steps
      with_reducible rename Fr g L _ _ => F5
      with_reducible rename News g L _ _ => N5
      unfold Hold
      have hvl : vs.length ≤ 4 := by
        rw [hI.length, hP.1]
        omega
      refine append_K F5 N5 (.tail (Nat.ne_of_gt l2) (.head ?_)) ?_ (by rw [List.size_toArray, sizeLine_eq]; omega)
      · intro p hp
        rcases List.mem_cons.mp hp with rfl | hp
        · exact Nat.ne_of_lt l1
        · exact hoff p hp Wa (.tail _ (.head _))
      · intro h9 F9 N9
        dsimp only at F9 N9 ⊢
        rw [List.push_toArray] at N9
        k_steps
        with_reducible rename Fr g L _ _ => F6
        with_reducible rename News g L _ _ => N6
        unfold Hold
        refine kst_end (σ := WSt) ⟨_, vals ++ [_], kk + 1⟩ F6 N6 (fun p hp => List.mem_append_left own hp) (fun p hp => List.mem_append_right [_, _, _] hp) rfl (intsAre_snoc hI _ _) ?_ ?_ ?_
        · exact List.forall_mem_cons.mpr ⟨rfl, List.forall_mem_cons.mpr ⟨rfl, List.forall_mem_cons.mpr ⟨rfl, List.forall_mem_nil _⟩⟩⟩
        · kst_same
        · exact wp_snoc hP (item_bound _ _ _)
    · rintro ⟨vs, vals, kk⟩ u h8 tk8 hI hP F4 N4
      dsimp only [kstB] at hI hP F4 N4 ⊢
      refine hQ _ _ ⟨_, Du, Wa, vs, vals, kk, F4, rfl, rfl, rfl, N4, hI, ?_, hP.2⟩
      rw [hP.1, rangeKs_length]
      omega
end
end Mine
end
example : (0 : Nat) = 0 := by w_top off; first | walk1 | rfl
-- part ST3
section
open PySem PySem.W PyProof.Rows PySem.Calls PySem.Spec
namespace Mine
example : PySem.Challenge.rw_vj0002_01 = PySem.Challenge.rw_vj0002_01 ∧ hd.heap_39 = hd.heap_39 := by k_fill; exact ⟨rfl, rfl⟩
local macro_rules | `(tactic| walk_at "call ref") => `(tactic| refine unhold ?_)
local macro_rules | `(tactic| ktr_room) => `(tactic| omega)
abbrev DSt := Option (Addr × List Value × Nat)
abbrev dLed (rest : List (Addr × Obj)) : DSt → List (Addr × Obj)
  | none => rest
  | some (a, ds, k) => (a, W.listOf ds.toArray k) :: rest
abbrev dVal : DSt → Value
  | none => .none
  | some (a, _, _) => .ref a
abbrev DP (pre : List Int) : DSt → Prop
  | none => ¬ ∀ n ∈ pre, inR n
  | some (_, ds, _) => (∀ n ∈ pre, inR n) ∧ IntsAre ds (told pre)
theorem d_in2 {α : Type} {a b c p : α} (h : p ∈ [a, b]) : p ∈ [a, b, c] := by
  rcases List.mem_cons.mp h with rfl | h
  · exact .head _
  · rw [List.mem_singleton.mp h]; exact .tail _ (.head _)
theorem told_len2 (pre : List Int) : (told pre).length ≤ 9 * pre.length := by
  induction pre with
  | nil => simp
  | cons a r ih =>
    unfold told at ih ⊢
    rw [List.flatMap_cons, List.length_append, laid_length, List.length_cons]
    have := more_le (zig a)
    omega
theorem told_snoc (pre : List Int) (n : Int) : told (pre ++ [n]) = told pre ++ laid (zig n) := by
  unfold told
  rw [List.flatMap_append]
  simp
theorem d_all {pre : List Int} {n : Int} (h : ∀ m ∈ pre, inR m) (hi : inR n) : ∀ m ∈ pre ++ [n], inR m := by
  intro m hm
  rcases List.mem_append.mp hm with hm | hm
  · exact h m hm
  · rw [List.mem_singleton.mp hm]; exact hi
section
variable {prog : Program} {w : World} {mean : ExcName → Option Value} {mg mb : Str → Option Value} {g : Heap} {L fa D : Addr} {ys : List Value} {ns : List Int} {cdv : Value} {s : Shared} {Q : Flow → Shared → Prop} {RE : Value → Shared → Prop}
  (K : Below callerA g [] g) (X : (hd.heap_39 w.params).In g) (T : Top hd.view_39 (looseW hd.view_39 []) mean mg mb g)
include K X T
set_option maxHeartbeats 1000000 in
theorem st3 (J : J2 g L D ys s.heap) (hQ : ∀ h' tk', J3' g L D ys h' → Q .next { s with heap := h', toks := tk' }) :
    wpC (model prog w) (lawA L fa cdv) (exec law3.1 (lawEnv L fa cdv)) Q (lawE prog w L fa cdv RE) s := by
  obtain ⟨m, Du, Wa, vs, vals, kw, F, e1, e2, e3, N, hI, hS⟩ := J
  have F0 := frAt3 F e1 e2 e3
  clear F e1 e2 e3
  dsimp only [lawEnv, lawA, lawE, lawS, law3]
  refine letC ?_
  intro qk ek
  refine forC2_listL (σ := DSt) (h₀ := g) (l := Wa) (vs := vs) (ns := vals) (nn := kw) (m₀ := mapAt F0) (dLed [(Wa, W.listOf vs.toArray kw), (D, LCg.lst ys)]) (fun c => [(sD, dVal c), (sN, .ref D), (sW, .ref Wa)]) (fun _ => True) [] DP (some (Du, [], 0)) rfl rfl rfl ?_ hI ?_ trivial ?_ ?_ ?_ ?_
  · intro c
    rcases c with _ | ⟨a, ds, k⟩
    · exact .head _
    · exact .tail _ (.head _)
  · intro Q' hQ'
    exact wpAny_Name (wpAny_loadName_local rfl rfl F0.ns rfl (hQ' s.heap s.toks F0 N)) (by decide)
  · exact List.forall_mem_cons.mpr ⟨rfl, List.forall_mem_cons.mpr ⟨rfl, List.forall_mem_cons.mpr ⟨rfl, List.forall_mem_nil _⟩⟩⟩
  · exact ⟨(fun _ h => nomatch h), .nil⟩
  · rintro c pre post n tn u h5 tk5 I o e2 hIp _ hP F5 N5
    have hn9 : n ∈ vals := by rw [e2]; exact List.mem_append_right _ (.head _)
    refine wpC_any (holdP fun PQ hPQ => ?_)
    rcases c with _ | ⟨a, ds, k⟩
    · dsimp only [kstB, dLed, dVal, DP, List.cons_append, List.nil_append] at hIp hP F5 N5 ⊢
      replace F5 : Fr g L h5 _ := F5
      replace N5 : News g L h5 _ := N5
      k_steps
      with_reducible rename Fr g L _ _ => F6
      with_reducible rename News g L _ _ => N6
      refine hPQ _ _ ?_
      dsimp only
      refine ⟨none, _, _, _, _, rfl, F6, N6, fun p hp => ⟨d_in2 hp, hIp p hp⟩, .tail _ (.tail _ (.head _)), trivial, ?_, ?_, ?_⟩
      · exact List.forall_mem_cons.mpr ⟨rfl, List.forall_mem_cons.mpr ⟨rfl, List.forall_mem_cons.mpr ⟨rfl, List.forall_mem_nil _⟩⟩⟩
      · intro y h2 h3 h4
        simp only [List.forall_mem_cons, List.not_mem_nil, false_implies, implies_true, and_true, ne_eq] at h3
        simp [h2, h3]
      · exact fun h => hP fun q hq => h q (List.mem_append_left _ hq)
    · dsimp only [kstB, dLed, dVal, DP, List.cons_append, List.nil_append] at hIp hP F5 N5 ⊢
      replace F5 : Fr g L h5 _ := F5
      replace N5 : News g L h5 _ := N5
      k_steps
      · have hin : inR n := by
          constructor <;> simp only [Int.reducePow, Int.reduceToNat] at * <;> omega
        with_reducible rename 0 ≤ n => h0
        have ez : zig n = 2 * n := by unfold zig; rw [if_pos h0]
        unfold Hold
        with_unfolding_all refine' laid_ok K F5 X N5 T rfl ?_ ?_ ?_ ?_ ?_
        · decide
        · decide
        · omega
        · have := hin.2; simp only [Int.reducePow]; omega
        · intro r us k2 h6 tk6 hI6 F6 N6 l6
          dsimp only
          have hl2 : IntsAre us (laid (zig n)) := by rw [ez]; exact hI6
          have hsz : (told pre).length + (laid (zig n)).length ≤ sizeLine := by
            have q1 := told_len2 pre
            have q2 := laid_length (zig n)
            have q3 := more_le (zig n)
            have q4 := hS.1
            rw [e2, List.length_append] at q4
            rw [sizeLine_eq]
            omega
          refine kmk_add_ints F6 N6 ⟨_, (N6 _ (.tail _ (.head _))).1, rfl, k, rfl⟩ ⟨_, (N6 _ (.head _)).1, rfl, k2, rfl⟩ hP.2 hl2 ?_ hsz
          intro D2 ws h7 F7 N7 l7 hI7
          dsimp only
          k_steps
          with_reducible rename Fr g L _ _ => F8
          with_reducible rename News g L _ _ => N8
          refine hPQ _ _ ?_
          dsimp only
          refine ⟨some (D2, ws, 0), _, _, _, _, rfl, F8, N8, ?_, ?_, trivial, ?_, ?_, ?_⟩
          · intro p hp
            rcases List.mem_cons.mp hp with rfl | hp
            · exact ⟨.head _, Nat.ne_of_lt (l7 (I, o) (.tail _ (.tail _ (.tail _ (.tail _ (.head _))))))⟩
            · exact ⟨.tail _ (.tail _ (.tail _ (d_in2 hp))), hIp p (.tail _ hp)⟩
          · exact .tail _ (.tail _ (.tail _ (.tail _ (.tail _ (.head _)))))
          · exact List.forall_mem_cons.mpr ⟨rfl, List.forall_mem_cons.mpr ⟨rfl, List.forall_mem_cons.mpr ⟨rfl, List.forall_mem_nil _⟩⟩⟩
          · intro y h2 h3 h4
            simp only [List.forall_mem_cons, List.not_mem_nil, false_implies, implies_true, and_true, ne_eq] at h3
            simp [h2, h3]
          · refine ⟨d_all hP.1 hin, ?_⟩
            rw [told_snoc]
            exact hI7
      · have hin : inR n := by
          constructor <;> simp only [Int.reducePow, Int.reduceToNat] at * <;> omega
        with_reducible rename ¬ 0 ≤ n => h0
        have ez : zig n = -2 * n - 1 := by unfold zig; rw [if_neg h0]
        unfold Hold
        with_unfolding_all refine' laid_ok K F5 X N5 T rfl ?_ ?_ ?_ ?_ ?_
        · decide
        · decide
        · omega
        · have := hin.1; simp only [Int.reducePow]; omega
        · intro r us k2 h6 tk6 hI6 F6 N6 l6
          dsimp only
          have hl2 : IntsAre us (laid (zig n)) := by rw [ez]; exact hI6
          have hsz : (told pre).length + (laid (zig n)).length ≤ sizeLine := by
            have q1 := told_len2 pre
            have q2 := laid_length (zig n)
            have q3 := more_le (zig n)
            have q4 := hS.1
            rw [e2, List.length_append] at q4
            rw [sizeLine_eq]
            omega
          refine kmk_add_ints F6 N6 ⟨_, (N6 _ (.tail _ (.head _))).1, rfl, k, rfl⟩ ⟨_, (N6 _ (.head _)).1, rfl, k2, rfl⟩ hP.2 hl2 ?_ hsz
          intro D2 ws h7 F7 N7 l7 hI7
          dsimp only
          k_steps
          with_reducible rename Fr g L _ _ => F8
          with_reducible rename News g L _ _ => N8
          refine hPQ _ _ ?_
          dsimp only
          refine ⟨some (D2, ws, 0), _, _, _, _, rfl, F8, N8, ?_, ?_, trivial, ?_, ?_, ?_⟩
          · intro p hp
            rcases List.mem_cons.mp hp with rfl | hp
            · exact ⟨.head _, Nat.ne_of_lt (l7 (I, o) (.tail _ (.tail _ (.tail _ (.tail _ (.head _))))))⟩
            · exact ⟨.tail _ (.tail _ (.tail _ (d_in2 hp))), hIp p (.tail _ hp)⟩
          · exact .tail _ (.tail _ (.tail _ (.tail _ (.tail _ (.head _)))))
          · exact List.forall_mem_cons.mpr ⟨rfl, List.forall_mem_cons.mpr ⟨rfl, List.forall_mem_cons.mpr ⟨rfl, List.forall_mem_nil _⟩⟩⟩
          · intro y h2 h3 h4
            simp only [List.forall_mem_cons, List.not_mem_nil, false_implies, implies_true, and_true, ne_eq] at h3
            simp [h2, h3]
          · refine ⟨d_all hP.1 hin, ?_⟩
            rw [told_snoc]
            exact hI7
      · with_reducible rename Fr g L _ _ => F6
        with_reducible rename News g L _ _ => N6
        have hout : ¬ inR n := by
          intro hi
          obtain ⟨q1, q2⟩ := hi
          simp only [Int.reducePow, Int.reduceToNat] at *
          omega
        refine hPQ _ _ ?_
        dsimp only
        refine ⟨none, _, _, _, _, rfl, F6, N6, fun p hp => ⟨.tail _ (d_in2 hp), hIp p (.tail _ hp)⟩, .tail _ (.tail _ (.tail _ (.head _))), trivial, ?_, ?_, ?_⟩
        · exact List.forall_mem_cons.mpr ⟨rfl, List.forall_mem_cons.mpr ⟨rfl, List.forall_mem_cons.mpr ⟨rfl, List.forall_mem_nil _⟩⟩⟩
        · intro y h2 h3 h4
          simp only [List.forall_mem_cons, List.not_mem_nil, false_implies, implies_true, and_true, ne_eq] at h3
          simp [h2, h3]
        · exact fun h => hout (h n (List.mem_append_right _ (.head _)))
      · with_reducible rename Fr g L _ _ => F6
        with_reducible rename News g L _ _ => N6
        have hout : ¬ inR n := by
          intro hi
          obtain ⟨q1, q2⟩ := hi
          simp only [Int.reducePow, Int.reduceToNat] at *
          omega
        refine hPQ _ _ ?_
        dsimp only
        refine ⟨none, _, _, _, _, rfl, F6, N6, fun p hp => ⟨.tail _ (d_in2 hp), hIp p (.tail _ hp)⟩, .tail _ (.tail _ (.tail _ (.head _))), trivial, ?_, ?_, ?_⟩
        · exact List.forall_mem_cons.mpr ⟨rfl, List.forall_mem_cons.mpr ⟨rfl, List.forall_mem_cons.mpr ⟨rfl, List.forall_mem_nil _⟩⟩⟩
        · intro y h2 h3 h4
          simp only [List.forall_mem_cons, List.not_mem_nil, false_implies, implies_true, and_true, ne_eq] at h3
          simp [h2, h3]
        · exact fun h => hout (h n (List.mem_append_right _ (.head _)))
  · rintro c u h5 tk5 _ hP F5 N5
    rcases c with _ | ⟨a, ds, k⟩
    · dsimp only [kstB, dLed, dVal, DP] at hP F5 N5 ⊢
      exact hQ _ _ ⟨_, Wa, vs, vals, kw, F5, rfl, rfl, hI, hS, .inr ⟨hP, rfl, N5⟩⟩
    · dsimp only [kstB, dLed, dVal, DP] at hP F5 N5 ⊢
      exact hQ _ _ ⟨_, Wa, vs, vals, kw, F5, rfl, rfl, hI, hS, .inl ⟨hP.1, a, ds, k, rfl, hP.2, N5⟩⟩
end
end Mine
end
example : (0 : Nat) = 0 := by w_top off; first | walk1 | rfl
-- part ST4
section
open PySem PySem.W PyProof.Rows PySem.Calls PySem.Spec
namespace Mine
example : PySem.Challenge.rw_vj0002_01 = PySem.Challenge.rw_vj0002_01 ∧ hd.heap_39 = hd.heap_39 := by k_fill; exact ⟨rfl, rfl⟩
local macro_rules | `(tactic| walk_at "call ref") => `(tactic| refine unhold ?_)
local macro_rules | `(tactic| walk_at "call type:list") => `(tactic| refine unhold ?_)
local macro_rules | `(tactic| ktr_room) => `(tactic| omega)
theorem told_len3 (pre : List Int) : (told pre).length ≤ 9 * pre.length := by
  induction pre with
  | nil => simp
  | cons a r ih =>
    unfold told at ih ⊢
    rw [List.flatMap_cons, List.length_append, laid_length, List.length_cons]
    have := more_le (zig a)
    omega
theorem inB_told {vals : List Int} (h : ∀ n ∈ vals, inR n) : ∀ x ∈ told vals, 0 ≤ x ∧ x < 256 := by
  intro x hx
  obtain ⟨n, hn, hx⟩ := List.mem_flatMap.mp hx
  have hi := h n hn
  obtain ⟨_, z0, z1⟩ := zig_in hi.1 hi.2
  exact inB_laid z0 z1 x hx
section
variable {prog : Program} {w : World} {mean : ExcName → Option Value} {mg mb : Str → Option Value} {g : Heap} {L fa D : Addr} {ys : List Value} {ns : List Int} {cdv : Value} {s : Shared} {Q : Flow → Shared → Prop} {RE : Value → Shared → Prop}
  (K : Below callerA g [] g) (X : (hd.heap_39 w.params).In g) (T : Top hd.view_39 (looseW hd.view_39 []) mean mg mb g)
include K X T
set_option maxHeartbeats 1000000 in
theorem st4 (J : J3' g L D ys s.heap) (hQ : ∀ h' tk', J4 g L D ys h' → Q .next { s with heap := h', toks := tk' }) :
    wpC (model prog w) (lawA L fa cdv) (exec law4.1 (lawEnv L fa cdv)) Q (lawE prog w L fa cdv RE) s := by
  obtain ⟨m, Wa, vs, vals, kw, F, e1, e2, hI, hS, J⟩ := J
  rcases J with ⟨hall, Du, ds, kd, e3, hD, N⟩ | ⟨hnot, e3, N⟩
  · have F0 := frAt3 F e1 e2 e3
    clear F e1 e2 e3
    dsimp only [lawEnv, lawA, lawE, lawS, law4]
    refine letC ?_
    intro qk ek
    refine wpC_Try (wpC_execs_cons (wpC_Assign_Name (wpC_Call ?_)))
    k_steps
    with_reducible rename Fr g L _ _ => F1
    with_reducible rename News g L _ _ => N1
    refine callWithC_type rfl (evalArgsC (wpC_spliced1 (wpC_Call ?_)))
    k_steps
    with_reducible rename Fr g L _ _ => F1
    with_reducible rename News g L _ _ => N1
    refine callWithC_fun2 rfl (evalArgsC (wpC_spliced1 (wpC_any (holdP fun PQ hPQ => ?_))))
    rw [if_neg Bool.false_ne_true]
    k_steps
    with_reducible rename Fr g L _ _ => F1
    with_reducible rename News g L _ _ => N1
    refine hPQ _ _ ⟨⟨_, _, (X.keeps F1.keep) 40 _ (by k_is), rfl⟩, ?_⟩
    clear hPQ
    have N2 : News g L _ [(Wa, W.listOf vs.toArray kw), (Du, W.listOf ds.toArray kd), (D, LCg.lst ys)] := fun p hp => N1 p (lw_perm hp)
    with_unfolding_all refine' vpack_ok K F1 X N2 T rfl ?_ ?_ hI hS.1 hS.2 ?_ ?_
    · decide
    · decide
    · intro _ t h6 tk6 F6 N6
      dsimp only
      refine wpC_any (list_bytes_K F6 N6 rfl (bInts_byteArr (inB_told hall)) ?_ ?_)
      · have q1 := told_len3 vals
        have q2 := hS.1
        show (told vals).length ≤ _
        omega
      · intro To ts kt h7 tk7 hI7 F7 N7 l7
        dsimp only
        k_steps
        with_reducible rename Fr g L _ _ => F8
        with_reducible rename News g L _ _ => N8
        refine wpC_execs_nil ?_
        dsimp only
        refine wpC_execs_nil ?_
        refine hQ _ _ ⟨_, Wa, vs, vals, kw, F8, rfl, rfl, hI, hS, .inl ⟨hall, Du, To, ds, ts, kd, kt, rfl, rfl, hD, hI7, l7 _ (.tail _ (.head _)), fun p hp => N8 p ?_⟩⟩
        rcases List.mem_cons.mp hp with rfl | hp
        · exact .head _
        · exact .tail _ (lw_perm hp)
    · intro h
      exact absurd hall h
  · have F0 := frAt3 F e1 e2 e3
    clear F e1 e2 e3
    dsimp only [lawEnv, lawA, lawE, lawS, law4]
    refine letC ?_
    intro qk ek
    refine wpC_Try (wpC_execs_cons (wpC_Assign_Name (wpC_Call ?_)))
    k_steps
    with_reducible rename Fr g L _ _ => F1
    with_reducible rename News g L _ _ => N1
    refine callWithC_type rfl (evalArgsC (wpC_spliced1 (wpC_Call ?_)))
    k_steps
    with_reducible rename Fr g L _ _ => F1
    with_reducible rename News g L _ _ => N1
    refine callWithC_fun2 rfl (evalArgsC (wpC_spliced1 (wpC_any (holdP fun PQ hPQ => ?_))))
    rw [if_neg Bool.false_ne_true]
    k_steps
    with_reducible rename Fr g L _ _ => F1
    with_reducible rename News g L _ _ => N1
    refine hPQ _ _ ⟨⟨_, _, (X.keeps F1.keep) 40 _ (by k_is), rfl⟩, ?_⟩
    clear hPQ
    with_unfolding_all refine' vpack_ok K F1 X N1 T rfl ?_ ?_ hI hS.1 hS.2 ?_ ?_
    · decide
    · decide
    · intro h
      exact absurd h hnot
    · intro _ e h6 tk6 hR hF
      obtain ⟨g6, F6, U6⟩ := hF
      refine caught_X rfl F6 U6 hR X T (by k_is) Boot.«ValueError» (by decide) PySem.F.isExc_ValueError PySem.F.notTuple_ValueError (by rw [isSubtype_type]; kernel_rfl) ?_
      intro h7 F7 N7
      dsimp only
      k_steps
      with_reducible rename Fr g L _ _ => F8
      with_reducible rename News g L _ _ => N8
      exact hQ _ _ ⟨_, Wa, vs, vals, kw, F8, rfl, rfl, hI, hS, .inr ⟨rfl, rfl, N8⟩⟩
end
end Mine
end
example : (0 : Nat) = 0 := by w_top off; first | walk1 | rfl
-- part EQ
section
open PySem PySem.W PyProof.Rows PySem.Calls PySem.Spec PySem.SeqAt
namespace Mine
theorem shaped_tup (ns : List Int) : shaped (.tuple (ns.map PyData.int)) = true := by
  have h1 := W.depthAll_ints ns
  have h2 : PyData.depth (.tuple (ns.map PyData.int)) ≤ 64 := by simp only [PyData.depth]; omega
  show (PyData.canLay0 (.tuple (ns.map PyData.int)) && decide (PyData.depth (.tuple (ns.map PyData.int)) ≤ 64)) = true
  rw [Bool.and_eq_true]
  exact ⟨by simp only [PyData.canLay0]; exact canLayAll0_ints ns, decide_eq_true h2⟩
theorem reads_tup {h : Heap} {a : Addr} {vs : List Value} {ns : List Int} (ho : h.get? a = some ({ cls := .type "tuple", data := .seq vs.toArray } : Obj)) (hi : IntsAre vs ns) : Reads h (.ref a) (.tuple (ns.map PyData.int)) [] :=
  Reads.tuple ho rfl rfl (by simpa using readsAll_of_ints hi)
section
variable {prog : Program} {w : World} {A : Around} {E : Value → Shared → Prop} {s : Shared}
theorem ne_tups {a b : Addr} {vs us : List Value} {ns ms : List Int} {Q : Value → Shared → Prop} (ha : s.heap.get? a = some ({ cls := .type "tuple", data := .seq vs.toArray } : Obj)) (hi : IntsAre vs ns)
    (hb : s.heap.get? b = some ({ cls := .type "tuple", data := .seq us.toArray } : Obj)) (hi' : IntsAre us ms) (hu : A.units + 64 < cLine)
    (h : Q (.bool (!decide (ns = ms))) s) : wpAny (model prog w) A (compareOp .NotEq (.ref a) (.ref b)) Q E s :=
  ne_dataH_same (reads_tup ha hi) (reads_tup hb hi') (shaped_tup ns) (shaped_tup ms) hu (by simp only [noMix]; exact noMix_ints ns ms) (by simp only [PySem.Spec.same]; rw [same_ints]; exact h)
end
end Mine
end
example : (0 : Nat) = 0 := by w_top off; first | walk1 | rfl
-- part ST5
section
open PySem PySem.W PyProof.Rows PySem.Calls PySem.Spec
namespace Mine
example : PySem.Challenge.rw_vj0002_01 = PySem.Challenge.rw_vj0002_01 ∧ hd.heap_39 = hd.heap_39 := by k_fill; exact ⟨rfl, rfl⟩
local macro_rules | `(tactic| walk_at "call ref") => `(tactic| refine unhold ?_)
local macro_rules | `(tactic| walk_at "call type:tuple") => `(tactic| refine unhold ?_)
local macro_rules | `(tactic| ktr_room) => `(tactic| omega)
section
variable {prog : Program} {w : World} {mean : ExcName → Option Value} {mg mb : Str → Option Value} {g : Heap} {L fa D : Addr} {ys : List Value} {ns : List Int} {cdv : Value} {s : Shared} {Q : Flow → Shared → Prop} {RE : Value → Shared → Prop}
  (K : Below callerA g [] g) (X : (hd.heap_39 w.params).In g) (T : Top hd.view_39 (looseW hd.view_39 []) mean mg mb g)
include K X T
set_option maxHeartbeats 1000000 in
theorem st5 (J : J4 g L D ys s.heap) (hQ : ∀ h' tk', J5 g L D ys h' → Q .next { s with heap := h', toks := tk' }) :
    wpAny (model prog w) (lawA L fa cdv) (exec law5.1 (lawEnv L fa cdv)) Q (lawE prog w L fa cdv RE) s := by
  obtain ⟨m, Wa, vs, vals, kw, F, e1, e2, hI, hS, J⟩ := J
  rcases J with ⟨hall, Du, To, ds, ts, kd, kt, e3, e4, hD, hT, lDT, N⟩ | ⟨e3, e4, N⟩
  · have F0 := frAt4 F e1 e2 e3 e4
    clear F e1 e2 e3 e4
    dsimp only [lawEnv, lawA, lawE, lawS, law5]
    have hinT := inB_told hall
    have hlenT : (told vals).length ≤ 36 := by
      have q1 := told_len3 vals
      have q2 := hS.1
      omega
    refine letAny ?_
    intro qk ek
    k_steps
    with_reducible rename Fr g L _ _ => F1
    with_reducible rename News g L _ _ => N1
    unfold Hold
    with_unfolding_all refine' unpack_ok K F1 X N1 T rfl ?_ ?_ (bInts_byteArr hinT) (by omega) hinT ?_ ?_
    · decide
    · decide
    · intro ns2 hr r vs2 h7 tk7 hI7 F7 N7
      rw [read_told vals hall] at hr
      have er := (Option.some.inj hr).symm
      subst er
      dsimp only
      k_steps
      with_reducible rename Fr g L _ _ => F8
      with_reducible rename News g L _ _ => N8
      unfold Hold
      refine kde_tupleOf (items := vs.toArray) (zs := vs) F8 N8 ⟨_, (N8 _ (.tail _ (.tail _ (.tail _ (.head _))))).1, rfl, kw, rfl⟩ (by rw [List.size_toArray, hI.length]; have := hS.1; omega) rfl ?_
      intro D9 h9 F9 N9 l9
      dsimp only
      refine ne_tups (vs := vs2) (us := vs) (N9 _ (.tail _ (.head _))).1 hI7 (N9 _ (.head _)).1 hI (by units_room) ?_
      rw [decide_eq_true (Eq.refl _)]
      k_steps
      exact hQ h9 tk7 ⟨_, F9, rfl, fun p hp => by rw [List.mem_singleton.mp hp]; exact N9 _ (.tail _ (.tail _ (.tail _ (.tail _ (.tail _ (.head _))))))⟩
    · intro h
      rw [read_told vals hall] at h
      cases h
  · have F0 := frAt4 F e1 e2 e3 e4
    clear F e1 e2 e3 e4
    dsimp only [lawEnv, lawA, lawE, lawS, law5]
    refine letAny ?_
    intro qk ek
    k_steps
    exact hQ s.heap s.toks ⟨_, F0, rfl, fun p hp => N p (.tail _ hp)⟩
end
end Mine
end
example : (0 : Nat) = 0 := by w_top off; first | walk1 | rfl
-- part ST6
section
open PySem PySem.W PyProof.Rows PySem.Calls PySem.Spec
namespace Mine
example : PySem.Challenge.rw_vj0002_01 = PySem.Challenge.rw_vj0002_01 ∧ hd.heap_39 = hd.heap_39 := by k_fill; exact ⟨rfl, rfl⟩
local macro_rules | `(tactic| walk_at "call ref") => `(tactic| refine unhold ?_)
local macro_rules | `(tactic| ktr_room) => `(tactic| omega)
theorem inB_mod (l : List Int) : InB (l.map fun k => k.fmod 256) := by
  intro x hx
  obtain ⟨k, _, rfl⟩ := List.mem_map.mp hx
  rw [Int.fmod_eq_emod_of_nonneg _ (by omega)]
  omega
theorem plain_lo (n d : Int) : 0 ≤ if 1 * 2 ^ (n.fmod 66).toNat + d.fmod 7 - 3 > 0 then 1 * 2 ^ (n.fmod 66).toNat + d.fmod 7 - 3 else 0 := by
  split <;> omega
theorem plain_hi (n d : Int) : (if 1 * 2 ^ (n.fmod 66).toNat + d.fmod 7 - 3 > 0 then 1 * 2 ^ (n.fmod 66).toNat + d.fmod 7 - 3 else 0) < 1180591620717411303424 := by
  rw [Int.fmod_eq_emod_of_nonneg d (by omega), Int.fmod_eq_emod_of_nonneg n (by omega)]
  obtain ⟨p0, p1⟩ := pow_le_65 (e := (n % 66).toNat) (by omega)
  generalize (2 : Int) ^ (n % 66).toNat = p at p0 p1
  split <;> omega
section
variable {prog : Program} {w : World} {mean : ExcName → Option Value} {mg mb : Str → Option Value} {g : Heap} {L fa D : Addr} {ys : List Value} {ns : List Int} {cdv : Value} {s : Shared} {Q : Flow → Shared → Prop} {RE : Value → Shared → Prop}
  (K : Below callerA g [] g) (X : (hd.heap_39 w.params).In g) (T : Top hd.view_39 (looseW hd.view_39 []) mean mg mb g)
include K X T
set_option maxHeartbeats 1000000 in
theorem st6 (hns : IntsAre ys ns) (hlen : ns.length = 18) (J : J5 g L D ys s.heap) (hQ : ∀ h' tk', J6 g L D ys h' → Q .next { s with heap := h', toks := tk' }) :
    wpAny (model prog w) (lawA L fa cdv) (exec law6.1 (lawEnv L fa cdv)) Q (lawE prog w L fa cdv RE) s := by
  obtain ⟨m, F, e1, N⟩ := J
  have F0 := frAt F e1
  clear F e1
  dsimp only [lawEnv, lawA, lawE, lawS, law6]
  refine letAny ?_
  intro qk ek
  k_steps
  with_reducible rename Fr g L _ _ => F8
  with_reducible rename News g L _ _ => N8
  with_reducible rename IntsAre _ (List.map _ _) => hI8
  with_reducible rename _ < (13 : Int) => hlt
  with_reducible rename (0 : Int) ≤ Int.fmod _ 13 => hge
  refine hQ _ _ ⟨_, _, _, _, F8, rfl, rfl, hI8, inB_mod _, ?_, fun p hp => N8 p ?_⟩
  · rw [List.length_map, List.length_take]
    omega
  · rcases List.mem_cons.mp hp with rfl | hp
    · exact .head _
    · exact .tail _ (.tail _ hp)
set_option maxHeartbeats 1000000 in
theorem st7 (hns : IntsAre ys ns) (hlen : ns.length = 18) (J : J6 g L D ys s.heap) (hQ : ∀ h' tk', J7 g L h' → Q .next { s with heap := h', toks := tk' }) :
    wpAny (model prog w) (lawA L fa cdv) (exec law7.1 (lawEnv L fa cdv)) Q (lawE prog w L fa cdv RE) s := by
  obtain ⟨m, Oc, os, obs, F, e1, e2, hI, hB, hL, N⟩ := J
  have F0 := frAt2 F e1 e2
  clear F e1 e2
  dsimp only [lawEnv, lawA, lawE, lawS, law7]
  refine letAny ?_
  intro qk ek
  k_steps
  with_reducible rename Fr g L _ _ => F8
  with_reducible rename News g L _ _ => N8
  refine hQ _ _ ⟨_, Oc, os, obs, _, _, F8, rfl, rfl, hI, hB, hL, plain_lo _ _, plain_hi _ _, fun p hp => N8 p ?_⟩
  rw [List.mem_singleton.mp hp]
  exact .head _
end
end Mine
end
example : (0 : Nat) = 0 := by w_top off; first | walk1 | rfl
-- part ST8
section
open PySem PySem.W PyProof.Rows PySem.Calls PySem.Spec
namespace Mine
example : PySem.Challenge.rw_vj0002_01 = PySem.Challenge.rw_vj0002_01 ∧ hd.heap_39 = hd.heap_39 := by k_fill; exact ⟨rfl, rfl⟩
local macro_rules | `(tactic| walk_at "call ref") => `(tactic| refine unhold ?_)
local macro_rules | `(tactic| walk_at "call type:list") => `(tactic| refine unhold ?_)
local macro_rules | `(tactic| ktr_room) => `(tactic| omega)
section
variable {prog : Program} {w : World} {mean : ExcName → Option Value} {mg mb : Str → Option Value} {g : Heap} {L fa D : Addr} {ys : List Value} {ns : List Int} {cdv : Value} {s : Shared} {Q : Flow → Shared → Prop} {RE : Value → Shared → Prop}
  (K : Below callerA g [] g) (X : (hd.heap_39 w.params).In g) (T : Top hd.view_39 (looseW hd.view_39 []) mean mg mb g)
include K X T
set_option maxHeartbeats 1000000 in
theorem st8 (J : J7 g L s.heap) (hQ : ∀ h' tk', J8 g L h' → Q .next { s with heap := h', toks := tk' }) :
    wpC (model prog w) (lawA L fa cdv) (exec law8.1 (lawEnv L fa cdv)) Q (lawE prog w L fa cdv RE) s := by
  obtain ⟨m, Oc, os, obs, p, t, F, e1, e2, hI, hB, hL, h0, h1, N⟩ := J
  have F0 := frAt2 F e1 e2
  clear F e1 e2
  dsimp only [lawEnv, lawA, lawE, lawS, law8]
  refine letC ?_
  intro qk ek
  refine wpC_Try (wpC_execs_cons (wpC_Assign_Name (wpC_Call ?_)))
  k_steps
  with_reducible rename Fr g L _ _ => F1
  with_reducible rename News g L _ _ => N1
  refine callWithC_type rfl (evalArgsC (wpC_spliced1 (wpC_Call ?_)))
  k_steps
  with_reducible rename Fr g L _ _ => F1
  with_reducible rename News g L _ _ => N1
  refine callWithC_fun2 rfl (evalArgsC (wpC_spliced1 (wpC_any (holdP fun PQ hPQ => ?_))))
  rw [if_neg Bool.false_ne_true]
  k_steps
  with_reducible rename Fr g L _ _ => F1
  with_reducible rename News g L _ _ => N1
  refine hPQ _ _ ⟨⟨_, _, (X.keeps F1.keep) 54 _ (by k_is), rfl⟩, ?_⟩
  clear hPQ
  with_unfolding_all refine' upack_ok K F1 X N1 T rfl ?_ ?_ h0 h1 ?_ ?_
  · decide
  · decide
  · intro hlt t h6 tk6 F6 N6
    dsimp only
    refine wpC_any (list_bytes_K F6 N6 rfl (bInts_byteArr (inB_laid h0 hlt)) ?_ ?_)
    · have q1 := laid_length p
      have q2 := more_le p
      omega
    · intro To ts kt h7 tk7 hI7 F7 N7 l7
      dsimp only
      k_steps
      with_reducible rename Fr g L _ _ => F8
      with_reducible rename News g L _ _ => N8
      refine wpC_execs_nil ?_
      dsimp only
      refine wpC_execs_nil ?_
      exact hQ _ _ ⟨_, Oc, os, obs, p, _, F8, rfl, rfl, hI, hB, hL, h0, .inl ⟨hlt, To, ts, kt, rfl, hI7, N8⟩⟩
  · intro hge e h6 tk6 hR hF
    obtain ⟨g6, F6, U6⟩ := hF
    refine caught_X rfl F6 U6 hR X T (by k_is) Boot.«ValueError» (by decide) PySem.F.isExc_ValueError PySem.F.notTuple_ValueError (by rw [isSubtype_type]; kernel_rfl) ?_
    intro h7 F7 N7
    dsimp only
    k_steps
    with_reducible rename Fr g L _ _ => F8
    with_reducible rename News g L _ _ => N8
    exact hQ _ _ ⟨_, Oc, os, obs, p, _, F8, rfl, rfl, hI, hB, hL, h0, .inr ⟨hge, rfl, N8⟩⟩
end
end Mine
end
example : (0 : Nat) = 0 := by w_top off; first | walk1 | rfl
-- part ST9
section
open PySem PySem.W PyProof.Rows PySem.Calls PySem.Spec
namespace Mine
example : PySem.Challenge.rw_vj0002_01 = PySem.Challenge.rw_vj0002_01 ∧ hd.heap_39 = hd.heap_39 := by k_fill; exact ⟨rfl, rfl⟩
local macro_rules | `(tactic| walk_at "call ref") => `(tactic| refine unhold ?_)
local macro_rules | `(tactic| ktr_room) => `(tactic| omega)
section
variable {prog : Program} {w : World} {mean : ExcName → Option Value} {mg mb : Str → Option Value} {g : Heap} {L fa D : Addr} {ys : List Value} {ns : List Int} {cdv : Value} {s : Shared} {Q : Flow → Shared → Prop} {RE : Value → Shared → Prop}
  (K : Below callerA g [] g) (X : (hd.heap_39 w.params).In g) (T : Top hd.view_39 (looseW hd.view_39 []) mean mg mb g)
include K X T
set_option maxHeartbeats 1000000 in
theorem st9 (J : J8 g L s.heap) (hQ : ∀ h' tk', J8 g L h' → Q .next { s with heap := h', toks := tk' }) :
    wpAny (model prog w) (lawA L fa cdv) (exec law9.1 (lawEnv L fa cdv)) Q (lawE prog w L fa cdv RE) s := by
  obtain ⟨sh, sg, sd, st, so⟩ := s
  obtain ⟨m, Oc, os, obs, p, t, F, e1, e2, hI, hB, hL, h0, J⟩ := J
  dsimp only at F J hQ
  rcases J with ⟨hlt, To, ts, kt, e3, hT, N⟩ | ⟨hge, e3, N⟩
  · have F0 := frAt3 F e1 e2 e3
    clear F e1 e2 e3
    dsimp only [lawEnv, lawA, lawE, lawS, law9]
    refine letAny ?_
    intro qk ek
    k_steps
    · unfold Hold
      with_unfolding_all refine' laid_ok K F0 X N T rfl ?_ ?_ h0 ?_ ?_
      · decide
      · decide
      · simp only [Int.reducePow]; omega
      · intro r us k2 h6 tk6 hI6 F6 N6 l6
        dsimp only
        k_steps
        exact hQ _ _ ⟨_, Oc, os, obs, p, _, F6, rfl, rfl, hI, hB, hL, h0, .inl ⟨hlt, To, ts, kt, rfl, hT, fun p hp => N6 p (.tail _ hp)⟩⟩
    · exfalso
      simp only [Int.reducePow, Int.reduceToNat] at *
      omega
  · have F0 := frAt3 F e1 e2 e3
    clear F e1 e2 e3
    dsimp only [lawEnv, lawA, lawE, lawS, law9]
    refine letAny ?_
    intro qk ek
    k_steps
    · exfalso
      simp only [Int.reducePow, Int.reduceToNat] at *
      omega
    · exact hQ _ _ ⟨_, Oc, os, obs, p, _, F0, rfl, rfl, hI, hB, hL, h0, .inr ⟨hge, rfl, N⟩⟩
end
end Mine
end
example : (0 : Nat) = 0 := by w_top off; first | walk1 | rfl
-- part ST10
section
open PySem PySem.W PyProof.Rows PySem.Calls PySem.Spec
namespace Mine
example : PySem.Challenge.rw_vj0002_01 = PySem.Challenge.rw_vj0002_01 ∧ hd.heap_39 = hd.heap_39 := by k_fill; exact ⟨rfl, rfl⟩
local macro_rules | `(tactic| walk_at "call ref") => `(tactic| refine unhold ?_)
local macro_rules | `(tactic| walk_at "compareOp NotEq ref ref") => `(tactic| refine unhold ?_)
local macro_rules | `(tactic| ktr_room) => `(tactic| omega)
theorem in_app {a b : List Int} (ha : ∀ x ∈ a, 0 ≤ x ∧ x < 256) (hb : ∀ x ∈ b, 0 ≤ x ∧ x < 256) : ∀ x ∈ a ++ b, 0 ≤ x ∧ x < 256 := by
  intro x hx
  rcases List.mem_append.mp hx with hx | hx
  · exact ha x hx
  · exact hb x hx
section
variable {prog : Program} {w : World} {mean : ExcName → Option Value} {mg mb : Str → Option Value} {g : Heap} {L fa D : Addr} {ys : List Value} {ns : List Int} {cdv : Value} {s : Shared} {Q : Flow → Shared → Prop} {RE : Value → Shared → Prop}
  (K : Below callerA g [] g) (X : (hd.heap_39 w.params).In g) (T : Top hd.view_39 (looseW hd.view_39 []) mean mg mb g)
include K X T
set_option maxHeartbeats 1000000 in
theorem st10 (J : J8 g L s.heap) (hQ : ∀ h' tk', J10 g L h' → Q .next { s with heap := h', toks := tk' }) :
    wpAny (model prog w) (lawA L fa cdv) (exec law10.1 (lawEnv L fa cdv)) Q (lawE prog w L fa cdv RE) s := by
  obtain ⟨sh, sg, sd, st, so⟩ := s
  obtain ⟨m, Oc, os, obs, p, t, F, e1, e2, hI, hB, hL, h0, J⟩ := J
  dsimp only at F J hQ
  rcases J with ⟨hlt, To, ts, kt, e3, hT, N⟩ | ⟨hge, e3, N⟩
  · have F0 := frAt3 F e1 e2 e3
    clear F e1 e2 e3
    dsimp only [lawEnv, lawA, lawE, lawS, law10]
    have hinT := inB_laid h0 hlt
    have hlenT : (laid p).length ≤ 9 := by
      have q1 := laid_length p
      have q2 := more_le p
      omega
    have hinA : KBa.In (laid p ++ obs) := in_app hinT hB
    refine letAny ?_
    intro qk ek
    k_steps
    with_reducible rename Fr g L _ _ => F1
    with_reducible rename News g L _ _ => N1
    obtain ⟨u1, u2, u3, u4⟩ := uread_laid h0 hlt obs
    unfold Hold
    with_unfolding_all refine' uunpack_ok K F1 X N1 T rfl ?_ ?_ (bInts_byteArr hinA) (by rw [List.length_append]; omega) hinA u2 ?_
    · decide
    · decide
    · intro r t1 t2 h7 tk7 F7 N7
      rw [u3, ← u4] at N7
      dsimp only
      k_steps
      with_reducible rename Fr g L _ _ => F9
      with_reducible rename News g L _ _ => N9
      unfold Hold
      refine ne_tups (vs := [_, _]) (us := [_, _]) (ns := [p, _]) (ms := [p, _]) (N9 _ (.tail _ (.head _))).1 (.cons _ _ (.cons _ _ .nil)) (N9 _ (.head _)).1 (.cons _ _ (.cons _ _ .nil)) (by units_room) ?_
      rw [decide_eq_true (Eq.refl _)]
      k_steps
      exact hQ _ _ ⟨_, Oc, os, obs, F9, rfl, hI, hB, hL, fun q hq => by rw [List.mem_singleton.mp hq]; exact N9 _ (by first | exact .tail _ (.tail _ (.tail _ (.head _))) | exact .tail _ (.tail _ (.tail _ (.tail _ (.head _)))) | exact .tail _ (.tail _ (.tail _ (.tail _ (.tail _ (.head _))))))⟩
  · have F0 := frAt3 F e1 e2 e3
    clear F e1 e2 e3
    dsimp only [lawEnv, lawA, lawE, lawS, law10]
    refine letAny ?_
    intro qk ek
    k_steps
    exact hQ _ _ ⟨_, Oc, os, obs, F0, rfl, hI, hB, hL, N⟩
end
end Mine
end
example : (0 : Nat) = 0 := by w_top off; first | walk1 | rfl
-- part ST11
section
open PySem PySem.W PyProof.Rows PySem.Calls PySem.Spec
namespace Mine
example : PySem.Challenge.rw_vj0002_01 = PySem.Challenge.rw_vj0002_01 ∧ hd.heap_39 = hd.heap_39 := by k_fill; exact ⟨rfl, rfl⟩
local macro_rules | `(tactic| walk_at "call ref") => `(tactic| refine unhold ?_)
local macro_rules | `(tactic| ktr_room) => `(tactic| omega)
theorem d_in13 {α : Type} {a b c p : α} (h : p ∈ [a, c]) : p ∈ [a, b, c] := by
  rcases List.mem_cons.mp h with rfl | h
  · exact .head _
  · rw [List.mem_singleton.mp h]; exact .tail _ (.tail _ (.head _))
theorem readL_length_aux : ∀ (k : Nat) (bs : List Int), bs.length ≤ k → ∀ ns, readL bs = some ns → ns.length ≤ bs.length := by
  intro k
  induction k with
  | zero =>
    intro bs hk ns h
    cases bs with
    | nil => rw [readL] at h; cases h; exact Nat.le_refl _
    | cons a r => simp at hk
  | succ k ih =>
    intro bs hk ns h
    cases bs with
    | nil => rw [readL] at h; cases h; exact Nat.le_refl _
    | cons a r =>
      rw [readL] at h
      split at h
      · cases h
      · obtain ⟨ms, hm, rfl⟩ := Option.map_eq_some_iff.mp h
        have q := ih _ (by rw [List.length_drop]; simp at hk; omega) ms hm
        rw [List.length_drop] at q
        simp
        omega
theorem readL_length (bs : List Int) (ns : List Int) (h : readL bs = some ns) : ns.length ≤ bs.length := readL_length_aux _ bs (Nat.le_refl _) ns h
section
variable {prog : Program} {w : World} {mean : ExcName → Option Value} {mg mb : Str → Option Value} {g : Heap} {L fa D : Addr} {ys : List Value} {ns : List Int} {cdv : Value} {s : Shared} {Q : Flow → Shared → Prop} {RE : Value → Shared → Prop}
  (K : Below callerA g [] g) (X : (hd.heap_39 w.params).In g) (T : Top hd.view_39 (looseW hd.view_39 []) mean mg mb g)
include K X T
set_option maxHeartbeats 1000000 in
theorem st11 (J : J10 g L s.heap) (hQ : ∀ h' tk', J11 g L h' → Q .next { s with heap := h', toks := tk' }) :
    wpC (model prog w) (lawA L fa cdv) (exec law11.1 (lawEnv L fa cdv)) Q (lawE prog w L fa cdv RE) s := by
  obtain ⟨sh, sg, sd, st, so⟩ := s
  obtain ⟨m, Oc, os, obs, F, e1, hI, hB, hL, N⟩ := J
  dsimp only at F N hQ
  have F0 := frAt F e1
  clear F e1
  dsimp only [lawEnv, lawA, lawE, lawS, law11]
  refine letC ?_
  intro qk ek
  refine wpC_Try (wpC_any (holdP fun PQ hPQ => ?_))
  k_steps
  with_reducible rename Fr g L _ _ => F1
  with_reducible rename News g L _ _ => N1
  unfold Hold
  with_unfolding_all refine' unpack_ok K F1 X N1 T rfl ?_ ?_ (bInts_byteArr hB) (by omega) hB ?_ ?_
  · decide
  · decide
  · intro ns hr r vs2 h7 tk7 hI7 F7 N7
    dsimp only
    k_steps
    with_reducible rename Fr g L _ _ => F8
    with_reducible rename News g L _ _ => N8
    refine kup_listOfT (zs := vs2) F8 N8 (.head _) rfl ?_ ?_
    · intro To kt h9 F9 N9 l9
      dsimp only
      k_steps
      with_reducible rename Fr g L _ _ => F10
      with_reducible rename News g L _ _ => N10
      refine hPQ _ _ ?_
      dsimp only
      refine wpC_execs_nil ?_
      exact hQ _ _ ⟨_, Oc, os, obs, F10, rfl, hI, hB, hL, .inl ⟨ns, To, vs2, kt, hr, rfl, hI7, fun p hp => N10 p (d_in13 hp)⟩⟩
    · have := readL_length _ _ hr
      have := hI7.length
      show vs2.length ≤ _
      rw [sizeLine_eq]
      omega
  · intro hr e h6 tk6 hR hF
    obtain ⟨g6, F6, U6⟩ := hF
    refine caught_X rfl F6 U6 hR X T (by k_is) Boot.«IndexError» (by decide) PySem.F.isExc_IndexError PySem.F.notTuple_IndexError (by rw [isSubtype_type]; kernel_rfl) ?_
    intro h7 F7 N7
    dsimp only
    k_steps
    with_reducible rename Fr g L _ _ => F8
    with_reducible rename News g L _ _ => N8
    exact hQ _ _ ⟨_, Oc, os, obs, F8, rfl, hI, hB, hL, .inr ⟨hr, rfl, N8⟩⟩
end
end Mine
end
example : (0 : Nat) = 0 := by w_top off; first | walk1 | rfl
-- part ST12
section
open PySem PySem.W PyProof.Rows PySem.Calls PySem.Spec
namespace Mine
example : PySem.Challenge.rw_vj0002_01 = PySem.Challenge.rw_vj0002_01 ∧ hd.heap_39 = hd.heap_39 := by k_fill; exact ⟨rfl, rfl⟩
local macro_rules | `(tactic| walk_at "call ref") => `(tactic| refine unhold ?_)
local macro_rules | `(tactic| ktr_room) => `(tactic| omega)
section
variable {prog : Program} {w : World} {mean : ExcName → Option Value} {mg mb : Str → Option Value} {g : Heap} {L fa D : Addr} {ys : List Value} {ns : List Int} {cdv : Value} {s : Shared} {Q : Flow → Shared → Prop} {RE : Value → Shared → Prop}
  (K : Below callerA g [] g) (X : (hd.heap_39 w.params).In g) (T : Top hd.view_39 (looseW hd.view_39 []) mean mg mb g)
include K X T
set_option maxHeartbeats 1000000 in
theorem st12 (J : J11 g L s.heap) (hQ : ∀ h' tk' m, Fr g L h' m → Q (.ret (.bool true)) { s with heap := h', toks := tk' }) :
    wpAny (model prog w) (lawA L fa cdv) (exec law12.1 (lawEnv L fa cdv)) Q (lawE prog w L fa cdv RE) s := by
  obtain ⟨sh, sg, sd, st, so⟩ := s
  obtain ⟨m, Oc, os, obs, F, e1, hI, hB, hL, J⟩ := J
  dsimp only at F J hQ
  rcases J with ⟨ns, To, ts, kt, hr, e3, hT, N⟩ | ⟨hr, e3, N⟩
  · have F0 := frAt2 F e1 e3
    clear F e1 e3
    dsimp only [lawEnv, lawA, lawE, lawS, law12]
    refine letAny ?_
    intro qk ek
    k_steps
    unfold Hold
    have N1 : News g L sh [(Oc, LCg.lst os), (To, W.listOf ts.toArray kt)] := fun p hp => N p (lw_perm hp)
    with_unfolding_all refine' read_ok K F0 X N1 T rfl ?_ ?_ hI hL hB ?_ ?_
    · decide
    · decide
    · intro ns2 hr2 r us k2 h6 tk6 hI6 F6 N6 l6
      rw [hr] at hr2
      have er := Option.some.inj hr2
      subst er
      dsimp only
      k_steps
      exact hQ _ _ _ F6
    · intro hn
      rw [hr] at hn
      cases hn
  · have F0 := frAt2 F e1 e3
    clear F e1 e3
    dsimp only [lawEnv, lawA, lawE, lawS, law12]
    refine letAny ?_
    intro qk ek
    k_steps
    unfold Hold
    with_unfolding_all refine' read_ok K F0 X N T rfl ?_ ?_ hI hL hB ?_ ?_
    · decide
    · decide
    · intro ns2 hr2
      rw [hr] at hr2
      cases hr2
    · intro _ t h6 tk6 F6 N6
      dsimp only
      k_steps
      exact hQ _ _ _ F6
end
end Mine
end
example : (0 : Nat) = 0 := by w_top off; first | walk1 | rfl
-- part LR
section
open PySem PySem.W PyProof.Rows PySem.Calls PySem.Spec
namespace Mine
section
variable {prog : Program} {w : World} {mean : ExcName → Option Value} {mg mb : Str → Option Value} {g : Heap} {L fa D : Addr} {ys : List Value} {ns : List Int} {cdv : Value} {s : Shared} {Q : Flow → Shared → Prop} {RE : Value → Shared → Prop}
  (K : Below callerA g [] g) (X : (hd.heap_39 w.params).In g) (T : Top hd.view_39 (looseW hd.view_39 []) mean mg mb g)
include K X T
set_option maxHeartbeats 1000000 in
theorem law_rest (hns : IntsAre ys ns) (hlen : ns.length = 18) (J : J1 g L D ys s.heap) (hQ : ∀ h' tk' m, Fr g L h' m → Q (.ret (.bool true)) { s with heap := h', toks := tk' }) :
    wpC (model prog w) (lawA L fa cdv) (execs [law2.1, law3.1, law4.1, law5.1, law6.1, law7.1, law8.1, law9.1, law10.1, law11.1, law12.1] (lawEnv L fa cdv)) Q (lawE prog w L fa cdv RE) s := by
  refine wpC_execs_cons (wpC_any (st2 K X T hns hlen J fun h2 tk2 J => ?_))
  refine wpC_execs_cons (st3 K X T J fun h3 tk3 J => ?_)
  refine wpC_execs_cons (st4 K X T J fun h4 tk4 J => ?_)
  refine wpC_execs_cons (wpC_any (st5 K X T J fun h5 tk5 J => ?_))
  refine wpC_execs_cons (wpC_any (st6 K X T hns hlen J fun h6 tk6 J => ?_))
  refine wpC_execs_cons (wpC_any (st7 K X T hns hlen J fun h7 tk7 J => ?_))
  refine wpC_execs_cons (st8 K X T J fun h8 tk8 J => ?_)
  refine wpC_execs_cons (wpC_any (st9 K X T J fun h9 tk9 J => ?_))
  refine wpC_execs_cons (wpC_any (st10 K X T J fun h10 tk10 J => ?_))
  refine wpC_execs_cons (st11 K X T J fun h11 tk11 J => ?_)
  refine wpC_execs_cons (wpC_any (st12 K X T J fun h12 tk12 m F => ?_))
  exact hQ _ _ _ F
end
end Mine
end
example : (0 : Nat) = 0 := by w_top off; first | walk1 | rfl
-- part ST0
section
open PySem PySem.W PyProof.Rows PySem.Calls PySem.Spec
namespace Mine
example : PySem.Challenge.rw_vj0002_01 = PySem.Challenge.rw_vj0002_01 ∧ hd.heap_39 = hd.heap_39 := by k_fill; exact ⟨rfl, rfl⟩
local macro_rules | `(tactic| walk_at "call ref") => `(tactic| refine unhold ?_)
local macro_rules | `(tactic| ktr_room) => `(tactic| omega)
def law0 : { s : Stmt // s = lawAt 0 } := ⟨.Assign _ _ _, rfl⟩
def law1 : { s : Stmt // s = lawAt 1 } := ⟨.Assign _ _ _, rfl⟩
/-- what holds after the first statement -/
def J0 (g : Heap) (L D : Addr) (ys : List Value) (h' : Heap) : Prop :=
  ∃ (m : Str → Option Value), Fr g L h' m ∧ m sN = some (.ref D) ∧ News g L h' [(D, LCg.lst ys)]
section
variable {prog : Program} {w : World} {mean : ExcName → Option Value} {mg mb : Str → Option Value} {g : Heap} {L fa D a : Addr} {m : Str → Option Value} {o0 : Obj} {vs ys : List Value} {ins ns : List Int} {cdv : Value} {s : Shared} {Q : Flow → Shared → Prop} {RE : Value → Shared → Prop}
  (K : Below callerA g [] g) (X : (hd.heap_39 w.params).In g) (T : Top hd.view_39 (looseW hd.view_39 []) mean mg mb g)
include K X T
set_option maxHeartbeats 1000000 in
theorem st0 (hl : g.IsList a vs.toArray) (hi : IntsAre vs ins) (hn : ins.length ≤ 63) (F : Fr g L s.heap m) (ho0 : o0.data = .cell (some (.ref a))) (N : News g L s.heap [(L + 1, o0)])
    (hQ : ∀ h' tk' D ys ns, IntsAre ys ns → ns.length = 18 → J0 g L D ys h' → Q .next { s with heap := h', toks := tk' }) :
    wpAny (model prog w) (lawA L fa cdv) (exec law0.1 (lawEnv L fa cdv)) Q (lawE prog w L fa cdv RE) s := by
  dsimp only [lawEnv, lawA, lawE, lawS, law0]
  have hvl := hi.length
  refine letAny ?_
  intro qk ek
  k_steps
  with_reducible rename Fr g L _ _ => F8
  with_reducible rename News g L _ _ => N8
  with_reducible rename IntsAre _ (List.map _ _) => hI8
  refine hQ _ _ _ _ _ hI8 (by rw [List.length_map, rangeKs_length]; rfl) ⟨_, F8, rfl, fun p hp => ?_⟩
  rw [List.mem_singleton.mp hp]
  exact N8 _ (.head _)
set_option maxHeartbeats 1000000 in
theorem st1 (J : J0 g L D ys s.heap) (hQ : ∀ h' tk', J1 g L D ys h' → Q .next { s with heap := h', toks := tk' }) :
    wpAny (model prog w) (lawA L fa cdv) (exec law1.1 (lawEnv L fa cdv)) Q (lawE prog w L fa cdv RE) s := by
  obtain ⟨m, F, e1, N⟩ := J
  have F0 := frAt F e1
  clear F e1
  dsimp only [lawEnv, lawA, lawE, lawS, law1]
  refine letAny ?_
  intro qk ek
  k_steps
  rename_i Wa _ lW Du _ lDu Tp _ lTp _ _ _ F8 N8
  refine hQ _ _ ⟨_, Du, Wa, F8, rfl, rfl, rfl, lW, lDu.1, fun p hp => ?_⟩
  exact N8 _ (.tail _ hp)
set_option maxHeartbeats 1000000 in
theorem law_all (hl : g.IsList a vs.toArray) (hi : IntsAre vs ins) (hn : ins.length ≤ 63) (F : Fr g L s.heap m) (ho0 : o0.data = .cell (some (.ref a))) (N : News g L s.heap [(L + 1, o0)])
    (hQ : ∀ h' tk' m, Fr g L h' m → Q (.ret (.bool true)) { s with heap := h', toks := tk' }) :
    wpC (model prog w) (lawA L fa cdv) (execs [law0.1, law1.1, law2.1, law3.1, law4.1, law5.1, law6.1, law7.1, law8.1, law9.1, law10.1, law11.1, law12.1] (lawEnv L fa cdv)) Q (lawE prog w L fa cdv RE) s := by
  refine wpC_execs_cons (wpC_any (st0 K X T hl hi hn F ho0 N fun h0 tk0 D ys ns hns hlen J => ?_))
  refine wpC_execs_cons (wpC_any (st1 K X T J fun h1 tk1 J => ?_))
  exact law_rest K X T hns hlen J hQ
end
end Mine
end
example : (0 : Nat) = 0 := by w_top off; first | walk1 | rfl
-- part LW
section
open PySem PySem.W PyProof.Rows PySem.Calls PySem.Spec
namespace Mine
local macro_rules | `(tactic| ktr_room) => `(tactic| omega)
theorem codeC_cellsN {prog : Program} {w : World} {A : Around} {R : Result → Shared → Prop} {s : Shared} {name : Str} {params : Arguments} {body : List Stmt} {scope : Scope}
    {pm cd doc : Value} {a : Addr} {o : Obj} {args : List Value} {binds : List (Str × Value)}
    (hroom : A.depth < recursionLimit) (ho : s.heap.get? a = some o) (hdata : o.data = .func (Calls.docDef name params body scope pm cd doc)) (hlim : s.heap.NoLimit) (hcd : s.heap.CodeRec cd name)
    (hbind : bindArgs (Calls.docDef name params body scope pm cd doc) ⟨args, []⟩ = pure binds)
    (hkind : ∀ x ∈ binds, scope.names.lookup x.1 = some .local ∨ (scope.names.lookup x.1 = some .cell ∧ ((cellsFrom (s.heap.objs.size + 1) scope.names []).lookup x.1).isSome = true))
    (hnd : ((cellsFrom 0 scope.names []).map (·.1)).Nodup)
    (h : ∀ h₁ tk cells, Fr s.heap s.heap.objs.size h₁ (bindL (envOfC name scope s.heap.objs.size a cd).kindOf binds fun _ => none) → News s.heap s.heap.objs.size h₁ cells →
      CellsAre (bindC (envOfC name scope s.heap.objs.size a cd).kindOf binds fun _ => none) (cellsFrom (s.heap.objs.size + 1) scope.names []) cells →
      wpC (model prog w) (A.deeper (envOfC name scope s.heap.objs.size a cd)) (execs body (envOfC name scope s.heap.objs.size a cd))
        (fun f s' => R (.ok (.ret (match f with | .ret v => v | _ => .none))) s')
        (fun e s' => wpAny (model prog w) (A.deeper (envOfC name scope s.heap.objs.size a cd)) (leaving (envOfC name scope s.heap.objs.size a cd) e)
          (fun _ s'' => R (.error e) s'') (fun e' s'' => R (.error e') s'') s')
        { s with heap := h₁, toks := tk })
    (hco : scope.isCoroutine = false := by rfl) (hgen : scope.isGenerator = false := by rfl) (hk : scope.kind = .function := by rfl) :
    codeC (model prog w) A (.call (.ref a) ⟨args, []⟩) R s := by
  refine codeC_call_function hroom ho hdata hco hgen rfl hcd (wpAny_of_eq hbind ?_)
  refine wpAny_newFunctionEnv_cells hk hkind fun env' he s' x => ?_
  subst he
  refine ⟨hlim.keeps x.toInCall.keep, codeC_func ?_⟩
  obtain ⟨h₁, tk, rfl, _⟩ := x.done
  obtain ⟨cells, NC, Y⟩ := Cl.news (h₀ := s.heap) (Nat.le_refl _) fun n c hm => ⟨x.cell n c (lookup_of_mem_nodup (cellsFrom_names scope.names 0 (s.heap.objs.size + 1) [] [] rfl ▸ hnd) hm), x.above n c hm⟩
  exact h h₁ tk cells ⟨x.toInCall.ns, x.toInCall.keep, Nat.le_refl _⟩ NC Y
theorem enter_C {M : Model} {A : Around} {s : Shared} {f : Value} {pos : List Value} {kw : List (Str × Value)} {c : ClaimW} {cl : Str → Option Addr} {mean : ExcName → Option Value} {args : List WData} {s₁ : Shared}
    (h : codeC M A (.call f ⟨pos, kw⟩) (GoodWG c cl mean args s₁) s) : wpC M A (PySem.call f pos kw) (fun v s' => GoodWG c cl mean args s₁ (.ok (.ret v)) s') (fun e s' => GoodWG c cl mean args s₁ (.error e) s') s :=
  wpC_call (codeC_mono h fun res s' g => by rcases g.1 with ⟨v, _, _, rfl, _⟩ | ⟨e, _, _, rfl, _⟩ <;> exact g)
set_option maxHeartbeats 4000000 in
theorem the_row : PySem.Challenge.rw_vj0002_01.Holds := by
  w_on
  o_law
  refine holds_clean (q := hd.view_39) (loose := []) (XP := XL hd.view_39 []) left0 (Hook.of _) (Hook.keeps _) (fun s e => xl_of s (Bool.and_eq_true_iff.mp e).1) XL.keeps (by rfl) (by rfl) (by rfl) (fun s e => recFacts_of (Bool.and_eq_true_iff.mp e).2) (by rfl) (by first | assumption | decide +kernel) (by decide +kernel) ⟨rfl, rfl, rfl, rfl, rfl, by decide +kernel⟩ ?hw ?hc
  case hw => w_witness2
  k_fill
  intro w s₀ s₁ mg mb G Y fa o pm cd doc dV kV ho hd hcd hD hmg hg args vals as hpre hlay hrd hwl hlo
  have KX := kIn_of Y
  have X := (Ground.X G).1
  have V := (Ground.X G).2
  refine Ground.open G ?_
  intro T B D TE TW
  obtain ⟨_, _, M⟩ := bmod_of_top T
  have TA := at_of_top T
  try (obtain ⟨_, _, he, B0⟩ := based_of_top T rfl hmg ho hd; have he' : cd = _ := he; subst he'; clear he)
  clear hmg
  wrow_args hpre hlay hrd hwl hlo
  refine enter_C ?_
  w_top on
  have K0 := below_caller (Top.heap T)
  have he := Dflts.none hD rfl; subst he; have he := Dflts.noKw hD; subst he
  refine codeC_cellsN (by decide) ho (fd_plain hd) (Top.nolimit T) hcd rfl (kinds_of (by kinds_ok)) (by decide) fun h₁ tk₁ cells F N0 X0 => ?_
  cells_open X0
  rename_i o0 ho0
  clear hd TA
  try k_drop
  dsimp only
  with_reducible rename Heap.IsList _ _ _ => hLs
  with_reducible rename IntsAre _ _ => hIn
  with_reducible rename ¬ _ < _ => hle
  with_unfolding_all refine' law_all K0 KX T hLs hIn ?hlen F ho0 N0 ?hQ
  case hlen => omega
  case hQ =>
    intro h9 tk9 m9 F9
    refine GoodW.toG (goodW_bool F9 hg (raisesW_false ?_) ?_)
    · wrow_none_raised
    · wrow_post
end Mine
end
example : (0 : Nat) = 0 := by w_top off; first | walk1 | rfl
theorem PySem.Challenge.cw_vj0002_01_holds : PySem.Challenge.rw_vj0002_01.Holds :=
  Mine.the_row
