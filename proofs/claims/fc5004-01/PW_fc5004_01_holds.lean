import PyProof.Rows.All
import Wide.All
import OpenK.AllK
import Wide.FinOn
import KE.KBytesWalk
import KE.BytesMake
import KE.KBits
import KE.BitLaws
import KE.KFromBytes
import KE.KTryDeep
import KE.KRevSl
import KE.KBytesCut
import KE.RegKTryDeep
import KE.BytesMulAny
import Lean
import PySem.Challenge.RW_fc5004_01
open PySem PySem.W PyProof.Rows PySem.Calls
set_option Elab.async false
namespace FC
section
set_option maxRecDepth 100000
set_option maxHeartbeats 4000000

/-- a code that holds a buffer's memory while it decodes -/
def holdsMem (c : Code) : Bool := match c with
  | .builtin id _ => Builtin.Bytes.decodersThatHold.contains id
  | _ => false
def Tidy (l : List (Code × Pos)) : Prop := ∀ x ∈ l, holdsMem x.1 = false
theorem Tidy.cons {c : Code} {p : Pos} {l : List (Code × Pos)} (h : holdsMem c = false) (hl : Tidy l) : Tidy ((c, p) :: l) := fun x hx => by
  rcases List.mem_cons.mp hx with rfl | hx
  · exact h
  · exact hl x hx

/-- as the kit's wpAny, of the contexts alone in which no decoder stands below -/
def wpC {α : Type} (M : Model) (A : Around) (t : Sem α) (Q : α → Shared → Prop) (E : Value → Shared → Prop) (s : Shared) : Prop :=
  ∀ Γ p, Γ.In A → holdsMem Γ.code = false → Tidy Γ.below → Sem.wp M Γ t (fun a _ s' => Q a s') (fun e _ s' => E e s') p s
def codeC (M : Model) (A : Around) (c : Code) (R : Result → Shared → Prop) (s : Shared) : Prop :=
  ∀ Γ p, Γ.code = c → Γ.Below A → Tidy Γ.below → wpCode M Γ R p s

section
variable {α β : Type} {M : Model} {A : Around} {E : Value → Shared → Prop} {s : Shared}

theorem wpC_of {t : Sem α} {Q : α → Shared → Prop} (h : wpAny M A t Q E s) : wpC M A t Q E s := fun Γ p hΓ _ _ => h Γ p hΓ
theorem codeC_of {c : Code} {R : Result → Shared → Prop} (h : codeAny M A c R s) : codeC M A c R s := fun Γ p hc hΓ _ => h Γ p hc hΓ
theorem wpC_mono {t : Sem α} {Q Q' : α → Shared → Prop} {E' : Value → Shared → Prop} (h : wpC M A t Q E s)
    (hQ : ∀ a s, Q a s → Q' a s) (hE : ∀ e s, E e s → E' e s) : wpC M A t Q' E' s :=
  fun Γ p hΓ h1 h2 => Sem.wp_mono M Γ t (fun a _ s => hQ a s) (fun e _ s => hE e s) p s (h Γ p hΓ h1 h2)
theorem codeC_mono {c : Code} {R R' : Result → Shared → Prop} (h : codeC M A c R s) (hR : ∀ r s, R r s → R' r s) : codeC M A c R' s :=
  fun Γ p hc hΓ h2 => wpCode_mono hR (h Γ p hc hΓ h2)
theorem wpC_pure {a : α} {Q : α → Shared → Prop} (h : Q a s) : wpC M A (pure a) Q E s := fun _ _ _ _ _ => h
theorem wpC_bind {m : Sem α} {f : α → Sem β} {Q : β → Shared → Prop} (h : wpC M A m (fun a s' => wpC M A (f a) Q E s') E s) :
    wpC M A (m >>= f) Q E s := fun Γ p hΓ h1 h2 => by
  rw [Sem.wp_bind']
  exact Sem.wp_mono M Γ m (fun a p' s' h' => h' Γ p' hΓ h1 h2) (fun _ _ _ h' => h') p s (h Γ p hΓ h1 h2)
/-- the first part is a leaf: the kit's walk does it -/
theorem wpC_leaf {m : Sem α} {f : α → Sem β} {Q : β → Shared → Prop} (h : wpAny M A m (fun a s' => wpC M A (f a) Q E s') E s) :
    wpC M A (m >>= f) Q E s := wpC_bind (wpC_of h)
theorem wpC_holding {vs : List Value} {m : Sem α} {Q : α → Shared → Prop} (h : wpC M A m Q E s) : wpC M A (holding vs m) Q E s :=
  fun Γ p hΓ h1 h2 => by rw [Sem.wp_holding]; exact h Γ p hΓ h1 h2
theorem wpC_keep {vs : List Value} {m : Sem α} {Q : α → Shared → Prop} (h : wpC M A m Q E s) : wpC M A (m.keep vs) Q E s :=
  fun Γ p hΓ h1 h2 => by rw [Sem.wp_keep]; exact h Γ p hΓ h1 h2
theorem wpC_onRaise {m : Sem α} {k : Value → Sem Unit} {Q : α → Shared → Prop}
    (h : wpC M A m Q (fun e s' => wpC M A (k e) (fun _ s'' => E e s'') E s') s) : wpC M A (m.onRaise k) Q E s := fun Γ p hΓ h1 h2 => by
  rw [Sem.wp_onRaise]
  exact Sem.wp_mono M Γ m (fun _ _ _ h' => h') (fun e p' s' h' => h' Γ p' hΓ h1 h2) p s (h Γ p hΓ h1 h2)
theorem wpC_if {c : Prop} [Decidable c] {a b : Sem α} {Q : α → Shared → Prop} (h : if c then wpC M A a Q E s else wpC M A b Q E s) :
    wpC M A (if c then a else b) Q E s := by split <;> simp_all
theorem wpC_eq {t t' : Sem α} {Q : α → Shared → Prop} (e : t = t') (h : wpC M A t' Q E s) : wpC M A t Q E s := e ▸ h
/-- the stack's own look: all of it is tidy -/
theorem wpC_stack {Q : List (Code × Pos) → Shared → Prop}
    (h : ∀ st : List (Code × Pos), Tidy st → (∀ g, A.guards = some g → guardsOf st = g) → Q st s) : wpC M A stack Q E s := fun Γ p hΓ h1 h2 => by
  show Q ((Γ.code, p) :: Γ.below) s
  exact h _ (Tidy.cons h1 h2) (fun g hg => by rw [guardsOf_cons]; exact hΓ.2.2.2.1 g hg)

theorem wpC_runValue {c : Code} {Q : Value → Shared → Prop}
    (hc : codeC M A c (fun r s' => match r with | .ok (.ret v) => Q v s' | .ok _ => False | .error e => E e s') s) :
    wpC M A (runValue c) Q E s := fun Γ p hΓ h1 h2 => by rw [Sem.wp_runValue]; exact hc _ p rfl (hΓ.enter c none p (by intro x; cases x)) (Tidy.cons h1 h2)
theorem wpC_call {f : Value} {pos : List Value} {kw : List (Str × Value)} {Q : Value → Shared → Prop}
    (hc : codeC M A (.call f ⟨pos, kw⟩) (fun r s' => match r with | .ok (.ret v) => Q v s' | .ok _ => False | .error e => E e s') s) :
    wpC M A (call f pos kw) Q E s := wpC_runValue hc
theorem wpC_run {c : Code} {Q : Flow → Shared → Prop}
    (hc : codeC M A c (fun r s' => match r with | .ok f => Q f s' | .error e => E e s') s) : wpC M A (run c) Q E s :=
  fun Γ p hΓ h1 h2 => by rw [Sem.wp_run]; exact hc _ p rfl (hΓ.enter c none p (by intro x; cases x)) (Tidy.cons h1 h2)

theorem codeC_tree {c : Code} {R : Result → Shared → Prop} (hh : holdsMem c = false)
    (h : wpC M (A.under c) (M.den c) (fun fin s' => match fin with | .done f => R (.ok f) s' | .again c' => c'.quiet = true ∧ codeC M A c' R s')
      (fun e s' => R (.error e) s') s) : codeC M A c R s := fun Γ p hc hΓ ht => by
  rw [wpCode_iff_wp, hc]
  refine Sem.wp_mono M Γ _ (fun fin p' s' h' => ?_) (fun _ _ _ h' => h') p s (h Γ p (hc ▸ hΓ.in) (hc ▸ hh) ht)
  cases fin with
  | done f => exact h'
  | again c' => exact ⟨h'.1, h'.2 (Γ.goto c') p' rfl (hΓ.goto c') ht⟩
end

section
variable {prog : Program} {w : World} {A : Around} {E : Value → Shared → Prop} {s : Shared} {R : Result → Shared → Prop}
theorem codeC_builtin {id : String} {args : Args} {b : Builtin} (hb : entryFor table id = some b) (hh : Builtin.Bytes.decodersThatHold.contains id = false)
    (h : wpC (model prog w) (A.under (.builtin id args)) (b args)
      (fun fin s' => match fin with | .done f => R (.ok f) s' | .again c' => c'.quiet = true ∧ codeC (model prog w) A c' R s') (fun e s' => R (.error e) s') s) :
    codeC (model prog w) A (.builtin id args) R s := by
  refine codeC_tree hh ?_
  show wpC _ _ (match entryFor table id with | some b => b args | none => unsupported ((withoutEnding? id "#data").getD id)) _ _ s
  rw [hb]; exact h
end
end
section
set_option maxRecDepth 100000
set_option maxHeartbeats 4000000

/-- what the head asks of the walk: the call from every tidy context, and that True would do -/
abbrev WalkP (q : Program) (loose : List Str) (XP : (Str → Option Value) → Heap → Prop) (YP : World → Heap → Prop) (r : RowW) (d : DefRec) (kwd : List (Str × Expr)) : Prop :=
  ∀ (w : World) (s₀ s₁ : Shared) (mg mb : Str → Option Value), Ground q loose r.records XP w s₀ mg mb s₁.heap → YP w s₁.heap → ∀ (a : Addr) (o : Obj) (pm cd doc dV kV : Value), s₁.heap.get? a = some o →
    o.data = .func { docDef d.name d.params d.body d.scope pm cd doc with defaults := dV, kwdefaults := kV } → s₁.heap.CodeRec cd d.name → Dflts mg s₁.heap d.params kwd dV kV → mg d.name = some (.ref a) → s₁.gens = #[] →
    ∀ (args : List WData) (vals : List Value) (as : List Addr), r.claim.pre args = true → WData.layableAll args = true → ReadsAllW r.records (classAt s₀.heap) s₁.heap vals args as → WellAll w.params s₁.heap vals args → (∀ a ∈ as, (a == sysModules) = false) →
      wpC (model r.prog w) callerA (call (.ref a) vals) (fun v s' => GoodWG r.claim (classAt s₀.heap) (ExcName.means s₀.heap) args s₁ (.ok (.ret v)) s')
        (fun e s' => GoodWG r.claim (classAt s₀.heap) (ExcName.means s₀.heap) args s₁ (.error e) s') s₁ ∧
      GoodWG r.claim (classAt s₀.heap) (ExcName.means s₀.heap) args s₁ (.ok (.ret (.bool true))) s₁

def tidyB (l : List (Code × Pos)) : Bool := l.all fun x => !holdsMem x.1
theorem tidyB_iff {l : List (Code × Pos)} (h : tidyB l = true) : Tidy l := fun x hx => by
  have := List.all_eq_true.mp h x hx
  simpa using this
abbrev theTree (name : Str) (vs : List Value) : Sem PySem.Fin := do
  match ← nsGet mainNs name with
  | some f => do ret (← PySem.call f vs)
  | none => unsupported "claim.caller:no-such-global"

theorem one_step {p : Program} {w : World} {s : Shared} (hz : s.asleep) {k : List (Code × Pos) → Sem PySem.Fin} {o : Outcome} {s' : Shared} : ∀ {n : Nat},
    schedN (denote table) p w n (.single s ⟨.stack k, .builtin "claim.caller" {}, default, []⟩) = .halted o s' →
    ∃ m, schedN (denote table) p w m (.single s ⟨k [(.builtin "claim.caller" {}, default)], .builtin "claim.caller" {}, default, []⟩) = .halted o s'
  | 0, h => by cases h
  | n + 1, h => by
    refine ⟨n, ?_⟩
    obtain ⟨hp, g, d, t, os⟩ := s
    have hc : Thread.calm ⟨.stack k, .builtin "claim.caller" {}, default, []⟩ = true := by rfl
    have e := (sstep_single (denote table) p w ⟨hp, g, d, t, os⟩ ⟨.stack k, .builtin "claim.caller" {}, default, []⟩ hc hz).resolve_right (by intro x; cases x)
    simp only [schedN, e] at h
    exact h

theorem openBy_step {c : ClaimW} {tree : List Value → Sem PySem.Fin} {k : List Value → List (Code × Pos) → Sem PySem.Fin} {defs keeps : List Str} {writes : Bool} (hk : ∀ vs, k vs [(.builtin "claim.caller" {}, default)] = tree vs)
    (hz : ∀ w s s₀ s₁, AfterRun (opening c.prog) w s → fenceModules? c.prog s = some s₀ → TopRan c.prog w s₀ s₁ → s₁.asleep)
    (H : c.HoldsOpenBy (fun vs => ⟨.stack (k vs), .builtin "claim.caller" {}, default, []⟩) defs keeps writes) :
    c.HoldsOpenBy (fun vs => ⟨tree vs, .builtin "claim.caller" {}, default, []⟩) defs keeps writes := by
  refine ⟨H.1, H.2.1, fun w => ⟨(H.2.2 w).1, fun s hs => ?_⟩⟩
  obtain ⟨s₀, hf, hg0, s₁, hT, hd, hr, hu, hcall⟩ := (H.2.2 w).2 s hs
  refine ⟨s₀, hf, hg0, s₁, hT, hd, hr, hu, fun args hp hl ord ho => ?_⟩
  obtain ⟨vs, s₂, hlaid, n, o, s', hrun, rest⟩ := hcall args hp hl ord ho
  have hz₂ : s₂.asleep := Shared.asleep_of_life (layAllW_rest _ _ _ hlaid).2.2.2 (hz w s s₀ s₁ hs hf hT)
  obtain ⟨m, hm⟩ := one_step hz₂ hrun
  rw [hk] at hm
  exact ⟨vs, s₂, hlaid, m, o, s', hm, rest⟩

theorem PySem.W.holds_open {r : OpenRow} {q : Program} {loose : List Str} {Xt : Shared → Bool} {XP : (Str → Option Value) → Heap → Prop} {α : Type} {Yf : Shared → α} {Ya : World → α} {YP : World → Heap → Prop} {d : DefRec} {kwd : List (Str × Expr)} {N : Nat}
    (left : LeftO r.prog q loose Xt Yf Ya N) (hY : ∀ w s, Yf s = Ya w → YP w s.heap) (hYk : ∀ w h h', YP w h → (∀ b o, h.get? b = some o → h'.get? b = some o) → YP w h')
    (hX : ∀ s, Xt s = true → XP (s.heap.nsMap mainGlobals) s.heap) (hXk : ∀ mg h h', XP mg h → (∀ b o, h.get? b = some o → h'.get? b = some o) → XP mg h')
    (hdef : defOf q r.name = some (d, kwd)) (hp : r.prog.theDef r.name = some (d.params, d.body, d.scope)) (hk : kwWritten? d.params.kwonlyargs d.params.kw_defaults = some kwd) (hRf : ∀ s, Xt s = true → RecFacts r.records s.heap) (hwr : (!r.writes || r.records.isEmpty) = true)
    (k1 : r.wellSaid = true) (ok : (chainsOk q && opensWell r.prog && (frees r.toRowW && r.within.isEmpty)) = true) (hb : r.prog.bare) (hw : r.toRowW.promised)
    (call : WalkP q loose XP YP r.toRowW d kwd) : r.Holds := by
  have hch : chainsOk q = true := (Bool.and_eq_true_iff.mp (Bool.and_eq_true_iff.mp ok).1).1
  refine ⟨k1, hw, openBy_step (k := fun vs l => if tidyB l = true then theTree r.name vs else ret (.bool true)) (tree := theTree r.name) (fun vs => if_pos (by decide)) ?_ ?_⟩
  · intro w s s₀ s₁ hs hf hT
    obtain ⟨s₀', hf', _, s₁', hT', hz', _⟩ := (left.behind hX hch w).2 s hs
    rw [show fenceModules? r.prog s = some s₀ from hf] at hf'
    cases hf'
    exact Shared.asleep_of_life (hT.2.1.trans hT'.2.1.symm) hz'
  refine open_anyG (r := r.toRowW) (run := fun f vs => Sem.stack fun l => if tidyB l = true then PySem.call f vs else pure (.bool true)) (tree := fun vs => Sem.stack fun l => if tidyB l = true then theTree r.name vs else ret (.bool true))
    left hY hYk hX hXk hRf hwr ok hb hw ?_ (fun w s hg G n hn => ?_) fun w s₀ s₁ mg mb G Y args vs as hpre hlay L low => ?_
  · intro vs w s mg f Q E hg hf h Γ p hΓ
    have h' := h Γ p hΓ
    rw [Sem.wp_stack] at h' ⊢
    by_cases c : tidyB ((Γ.code, p) :: Γ.below) = true
    · simp only [if_pos c] at h' ⊢
      show Sem.wp _ Γ (nsGet mainNs r.name >>= _) _ _ p s
      rw [Sem.wp_bind']
      refine Sem.wp_mono _ Γ _ (fun x p' s' hx => ?_) (fun _ _ _ e => e) p s (wpAny_nsGet (Q := fun x s' => x = some f ∧ s' = s) (E := E) hg ⟨hf, rfl⟩ Γ p hΓ)
      obtain ⟨rfl, rfl⟩ := hx
      have h2 := h Γ p' hΓ
      rw [Sem.wp_stack, if_pos (show tidyB ((Γ.code, p') :: Γ.below) = true from c)] at h2
      show Sem.wp _ Γ (PySem.call f vs >>= fun v => ret v) _ _ p' s'
      rw [Sem.wp_bind']
      exact h2
    · simp only [if_neg c] at h' ⊢
      exact h'
  · obtain rfl : n = r.name := by split at hn <;> simp_all
    exact pinned_of_view hg G hdef hp hk
  · obtain ⟨a, o, pm, cd, doc, dV, kV, h1, h2, h3, h4, h5⟩ := G.fn hdef
    refine ⟨.ref a, h1, fun Γ p hΓ => ?_⟩
    obtain ⟨c1, c2⟩ := call w s₀ s₁ mg mb G Y a o pm cd doc dV kV h2 h3 h4 h5 (defOf_name hdef ▸ h1) L.gens args vs as hpre hlay L.reads L.well (L.low low)
    rw [Sem.wp_stack]
    by_cases c : tidyB ((Γ.code, p) :: Γ.below) = true
    · simp only [if_pos c]
      have t := tidyB_iff c
      exact c1 Γ p hΓ (t _ (.head _)) fun x hx => t x (.tail _ hx)
    · simp only [if_neg c]
      exact c2
end
section
set_option maxRecDepth 100000 in
set_option maxHeartbeats 8000000 in
open_top hd for PySem.Challenge.rw_fc5004_01
end
section
/-- the head leaves its own switch on; the walks below were written with it off -/
theorem walk_off : True := by
  w_top off
  trivial
end
section
/-- what a called def gives back: for any caller, with the ledger at hand -/
def Spec (w : World) (mean : ExcName → Option Value) (mg mb : Str → Option Value) (f : Addr) (vs : List Value) (news : List (Addr × Obj)) (D U : Nat)
    (Ret : Value → List (Addr × Obj) → Prop) : Prop :=
  ∀ (dp un : Nat) (gd : Option (List Code)) (cn : Str) (cs : Scope) (a : Addr) (ccd : Value) (cl : List (Str × Addr)) (outer : List Env) (A₀ : Around) (base h₀ : Heap) (L : Addr) (m : Str → Option Value) (s : Shared)
    (Q E : Value → Shared → Prop),
    Below A₀ base outer h₀ → Fr h₀ L s.heap m → (FC.hd.heap_39 w.params).In h₀ → News h₀ L s.heap news →
    Top FC.hd.view_39 (looseW FC.hd.view_39 [Str.ofString "BTClibValueError", Str.ofString "BTClibTypeError", Str.ofString "bytes_from_octets"]) mean mg mb h₀ →
    cs.kind = .function → dp + D < recursionLimit → un + U < cLine →
    (∀ r news' h' tk', Fr h₀ L h' m → News h₀ L h' news' → Ret r news' → Q r { s with heap := h', toks := tk' }) →
    wpAny (model PySem.Challenge.rw_fc5004_01.row.prog w) (ktrTop dp un gd cn cs L a ccd cl outer) (call (.ref f) vs) Q E s
end
section
set_option maxRecDepth 100000
set_option maxHeartbeats 4000000

theorem notGuard_of {st : List (Code × Pos)} (hg : guardsOf st = []) : ∀ x ∈ st, x.1.isGuard = false := by
  intro x hx
  cases h : x.1.isGuard with
  | false => rfl
  | true =>
    have : x.1 ∈ guardsOf st := List.mem_filter.mpr ⟨List.mem_map.mpr ⟨x, hx, rfl⟩, h⟩
    rw [hg] at this; cases this

section
variable {M : Model} {A : Around} {E : Value → Shared → Prop} {s : Shared}
theorem wpC_exported {self : Value} {Q : Bool → Shared → Prop} (hg : A.guards = some []) (h : Q false s) : wpC M A (Builtin.Bytes.exported self) Q E s := by
  unfold Builtin.Bytes.exported
  refine wpC_bind (wpC_stack fun st ht hgs => ?_)
  refine wpC_pure ?_
  have hng := notGuard_of (hgs [] hg)
  have key : ∀ f : Code × Pos → Bool, (∀ x ∈ st, f x = false) → st.any f = false := fun f hf => by
    rw [List.any_eq_false]; intro x hx; rw [hf x hx]; decide
  rw [key _ fun x hx => ?_]
  · exact h
  have h1 := hng x hx
  have h2 := ht x hx
  split
  · simp [Code.isGuard, guardIds] at h1
  · simp [Code.isGuard, guardIds] at h1
  · simp [Code.isGuard, guardIds] at h1
  · simp [Code.isGuard, guardIds] at h1
  · simp [Code.isGuard, guardIds] at h1
  · simp only [holdsMem] at h2
    rw [h2, Bool.and_false]
  · rfl

theorem wpC_checkResize {b : Addr} {arr : Array UInt8} {c : Value} {d : Option Addr} {sl : Array (Option Value)} {Q : Unit → Shared → Prop} (hg : A.guards = some []) (hb : s.heap.get? b = some ⟨c, d, .bytearray arr 0, sl⟩) (h : Q () s) :
    wpC M A (Builtin.Bytes.checkResize (.ref b)) Q E s := by
  unfold Builtin.Bytes.checkResize
  refine wpC_bind (wpC_bind (wpC_exported hg ?_))
  refine wpC_of ?_
  show wpAny M A (Builtin.Bytes.exportsOf (.ref b) >>= fun n => pure (decide (n > 0))) _ E s
  refine wpAny_bind ?_
  unfold Builtin.Bytes.exportsOf
  refine wpAny_bind (wpAny_load hb ?_)
  exact wpAny_pure (wpAny_pure (wpC_pure h))
end

abbrev baObj (arr : Array UInt8) : Obj := { cls := .type "bytearray", data := .bytearray arr }
theorem slot_ba_append : Slot "bytearray" "append" "bytearray.append" :=
  .of (owner := "bytearray") (n := "append") (by rw [typeLookup_type, builtinLookup_eq_fast]; kernel_rfl) (by decide +kernel) (by decide +kernel) (by decide +kernel)
    (by first | exact .inl (by decide +kernel) | exact .inr (by decide +kernel)) (by rw [isSubtype_type]; kernel_rfl)
theorem entry_ba_append : entryFor table "bytearray.append" = some Builtin.«bytearray.append» := entryFor_of_tree (by kernel_rfl)
theorem args_ba_append (a b : Value) : argsOk "bytearray.append" ⟨[a, b], []⟩ := by unfold argsOk; kernel_rfl
theorem plainAttrs_ba : PlainAttrs "bytearray" :=
  ⟨⟨"bytearray.__getattribute__", by rw [typeLookup_type, builtinLookup_eq_fast]; kernel_rfl, by decide +kernel⟩, by rw [typeLookup_type, builtinLookup_eq_fast]; kernel_rfl⟩
theorem type_ba_append : typeOf (.builtin "bytearray.append") = pure (.type "method_descriptor") := by show builtinType _ = _; rw [builtinType_eq_fast]; kernel_rfl
theorem held_ba_append : Builtin.Bytes.decodersThatHold.contains "bytearray.append" = false := by decide +kernel

section
variable {prog : Program} {w : World} {A : Around} {E : Value → Shared → Prop} {s : Shared}
theorem codeC_call_builtin {id : String} {args : Args} {b : Builtin} {R : Result → Shared → Prop} (hq : plainId id = true) (hb : entryFor table id = some b) (hh : Builtin.Bytes.decodersThatHold.contains id = false)
    (h : wpAny (model prog w) A.in1 (checkBuiltinCall id args) (fun _ s₁ => wpC (model prog w) A.in1 (b args)
      (fun fin s' => match fin with | .done f => R (.ok f) s' | .again c' => c'.quiet = true ∧ codeC (model prog w) A c' R s') (fun e s' => R (.error e) s') s₁) (fun e s' => R (.error e) s') s) :
    codeC (model prog w) A (.call (.builtin id) args) R s := by
  refine codeC_tree rfl ?_
  show wpC _ A.in1 (do checkBuiltinCall id args; again (.builtin id args)) _ _ s
  refine wpC_leaf (wpAny_mono h (fun _ s₁ h₁ => wpC_pure ⟨plainId_quiet hq _, codeC_builtin hb hh ?_⟩) fun _ _ h' => h')
  rw [Around.under_plainId hq _]
  exact h₁

theorem typeIs_ba {b : Addr} {arr : Array UInt8} (hb : s.heap.get? b = some (baObj arr)) : s.TypeIs (.ref b) "bytearray" := ⟨_, hb, rfl⟩

theorem getMethod_append {pl : Sem Bool} {b : Addr} {arr : Array UInt8} {Q : Value × List Value → Shared → Prop} (hb : s.heap.get? b = some (baObj arr)) (h : Q (.builtin "bytearray.append", [.ref b]) s) :
    wpAny (model prog w) A (getMethod (.ref b) (Str.ofString "append") pl) Q E s :=
  getMethod_builtin (typeIs_ba hb) plainAttrs_ba slot_ba_append type_ba_append (fun a e => by cases e; exact ⟨_, hb, rfl⟩) h

theorem wpC_append {b : Addr} {arr : Array UInt8} {x : Int} {u : Tok} {Q : Value → Shared → Prop} (hg : A.guards = some []) (hb : s.heap.get? b = some (baObj arr)) (h0 : 0 ≤ x) (h1 : x < 256) (hz : arr.size < sizeLine)
    (h : Q .none { s with heap := s.heap.update b (Obj.mapBytearray (·.push x.toNat.toUInt8)) }) :
    wpC (model prog w) A (call (.builtin "bytearray.append") [.ref b, .int x u]) Q E s := by
  refine wpC_call (codeC_call_builtin slot_ba_append.plain entry_ba_append held_ba_append ?_)
  refine slot_ba_append.check _ _ _ _ _ _ _ _ (typeIs_ba hb) (args_ba_append _ _) ?_
  unfold Builtin.«bytearray.append»
  refine wpC_leaf (wpAny_of_eq (a := (.ref b, .int x u)) (by rfl) ?_)
  refine wpC_leaf ?_
  unfold Builtin.Bytes.byteValue
  refine wpAny_bind (wpAny_of_eq (rfl : asIndex (.int x u) = pure x) ?_)
  refine bm_if_false (by simp only [Bool.or_eq_false_iff, decide_eq_false_iff_not]; omega) ?_
  refine wpAny_pure ?_
  refine wpC_bind (wpC_checkResize hg hb ?_)
  refine wpC_leaf ?_
  show wpAny _ _ (updateBytearray b (·.push x.toNat.toUInt8)) _ _ _
  unfold updateBytearray
  refine wpAny_bind (wpAny_load hb ?_)
  show wpAny _ _ (update b (Obj.mapBytearray (·.push x.toNat.toUInt8)) >>= fun _ => lookBehind b) _ _ _
  refine wpAny_bind (wpAny_update hb ?_)
  have hS₂ : (s.heap.update b (Obj.mapBytearray (·.push x.toNat.toUInt8))).get? b = some (baObj (arr.push x.toNat.toUInt8)) :=
    Heap.get?_update_self (Obj.mapBytearray (·.push x.toNat.toUInt8)) hb rfl
  refine wpAny_lookBehind hS₂ ?_ ?_
  · show (if (arr.push x.toNat.toUInt8).size > sizeLine then some "bytearray:memory" else none) = none
    rw [if_neg]
    rw [Array.size_push]; omega
  · exact wpC_pure h

theorem wpC_appendK {h₀ : Heap} {L : Addr} {m : Str → Option Value} {news news' : List (Addr × Obj)} {b : Addr} {arr : Array UInt8} {x : Int} {u : Tok} {Q : Value → Shared → Prop} (F : Fr h₀ L s.heap m) (N : News h₀ L s.heap news)
    (U : Upd b (baObj arr) (baObj (arr.push x.toNat.toUInt8)) news news') (hg : A.guards = some []) (h0 : 0 ≤ x) (h1 : x < 256) (hz : arr.size < sizeLine)
    (h : ∀ h', Fr h₀ L h' m → News h₀ L h' news' → Q .none { s with heap := h' }) : wpC (model prog w) A (call (.builtin "bytearray.append") [.ref b, .int x u]) Q E s := by
  obtain ⟨pre, post, rfl, rfl, a, c⟩ := U.split
  have hb : s.heap.get? b = some (baObj arr) := (N (b, baObj arr) (by simp)).1
  refine wpC_append hg hb h0 h1 hz ?_
  have V := news_upd (f := Obj.mapBytearray (·.push x.toNat.toUInt8)) (o' := baObj (arr.push x.toNat.toUInt8)) F N a c rfl rfl
  exact h _ V.1 V.2
end
end
section
set_option maxRecDepth 100000
set_option maxHeartbeats 4000000
namespace F
theorem mro_ba : mroOf (.type "bytearray") = pure [.type "bytearray", .type "object"] := by rw [mroOf_type]; kernel_rfl
theorem lookup_ba_new : typeLookup (.type "bytearray") "__new__" = pure (some (.builtin "bytearray.__new__")) := by rw [typeLookup_type, builtinLookup_eq_fast]; kernel_rfl
theorem slot_ba_init : Slot "bytearray" "__init__" "bytearray.__init__" :=
  .of (owner := "bytearray") (n := "__init__") (by rw [typeLookup_type, builtinLookup_eq_fast]; kernel_rfl) (by decide +kernel) (by decide +kernel) (by decide +kernel)
    (by first | exact .inl (by decide +kernel) | exact .inr (by decide +kernel)) (by rw [isSubtype_type]; kernel_rfl)
theorem called_ba : TypeCalled "bytearray" "bytearray.__new__" "bytearray.__init__" :=
  ⟨by decide +kernel, by decide +kernel, ⟨_, _, mro_ba⟩, madeBy_type mro_ba lookup_ba_new (by decide +kernel), by decide +kernel, by rw [isSubtype_type]; kernel_rfl, slot_ba_init⟩
theorem typeCall_ba : checkTypeCall "bytearray" ⟨[], []⟩ = pure () := by kernel_rfl
theorem newCall_ba : checkBuiltinCall "bytearray.__new__" ⟨[.type "bytearray"], []⟩ = pure () := by kernel_rfl
theorem entry_ba_init : entryFor table "bytearray.__init__" = some Builtin.«bytearray.__init__» := entryFor_of_tree (by kernel_rfl)
theorem entry_ba_new : entryFor table "bytearray.__new__" = some Builtin.«list.__new__» :=
  entryFor_alias (id' := "list.__new__") (by kernel_rfl) rfl (by decide +kernel) (by kernel_rfl)
theorem plain_ba_new : plainId "bytearray.__new__" = true := by decide +kernel
theorem args_ba_init (a : Value) : argsOk "bytearray.__init__" ⟨[a], []⟩ := by unfold argsOk; kernel_rfl
theorem held_ba_init : Builtin.Bytes.decodersThatHold.contains "bytearray.__init__" = false := by decide +kernel
theorem sub_ba : isSubtype (.type "bytearray") (.type "bytearray") = pure true := by rw [isSubtype_type]; kernel_rfl
theorem bind_ba_init : Builtin.Bytes.bindOptional "bytearray.__init__" "bytearray" ["source", "encoding", "errors"] [] [] = pure [none, none, none] := by kernel_rfl
theorem slot_ba_release : Slot "bytearray" "__release_buffer__" "bytearray.__release_buffer__" :=
  .of (owner := "bytearray") (n := "__release_buffer__") (by rw [typeLookup_type, builtinLookup_eq_fast]; kernel_rfl) (by decide +kernel) (by decide +kernel) (by decide +kernel)
    (by first | exact .inl (by decide +kernel) | exact .inr (by decide +kernel)) (by rw [isSubtype_type]; kernel_rfl)
end F
set_option maxRecDepth 1000000 in
theorem owner_ba_new : ("bytearray.__new__".splitOn ".__new__").headD "" = "bytearray" := by simp +decide [String.splitOn, String.splitOnAux]

section
variable {prog : Program} {w : World} {A : Around} {E : Value → Shared → Prop} {s : Shared} {R : Result → Shared → Prop}

theorem code_ba_new {Q₁ : Value → Shared → Prop}
    (h : Q₁ (.ref s.heap.objs.size) { s with heap := s.heap.push (baObj #[]) }) :
    codeAny (model prog w) A (.call (.builtin "bytearray.__new__") ⟨[.type "bytearray"], []⟩) (wants Q₁ E) s := by
  refine codeAny_of_tree ?_
  show wpAny _ A.in1 (do checkBuiltinCall "bytearray.__new__" ⟨[.type "bytearray"], []⟩; again (.builtin "bytearray.__new__" ⟨[.type "bytearray"], []⟩)) _ _ s
  refine wpAny_bind (wpAny_of_eq F.newCall_ba (wpAny_pure ⟨plainId_quiet F.plain_ba_new _, codeAny_builtin_stack F.entry_ba_new rfl fun p st => ?_⟩))
  rw [Around.under_plainId F.plain_ba_new _]
  have hsub := F.sub_ba
  have hown := owner_ba_new
  obtain ⟨hp, g, d, tk, os⟩ := s
  simp only [hown]
  wp_walk
  exact h

theorem wpC_false {α : Type} {M : Model} {c : Bool} {a b : Sem α} {Q : α → Shared → Prop} (hc : c = false) (h : wpC M A b Q E s) : wpC M A (if c = true then a else b) Q E s := by
  subst hc
  exact h
theorem wpC_callSpecial_slot {M : Model} {self : Value} {T : String} {name : Str} {id : String} {args : List Value} {kw : List (Str × Value)}
    {Q : Option Value → Shared → Prop} (hT : s.TypeIs self T) (h : Slot T name id)
    (hc : wpC M A (call (.builtin id) (self :: args) kw) (fun v => Q (some v)) E s) : wpC M A (callSpecial? self name args kw) Q E s := by
  simp only [callSpecial?]
  refine wpC_leaf (wpAny_specialOf hT h.lookup ?_)
  simp only [h.bind]
  exact wpC_holding (wpC_bind (wpC_pure (wpC_bind (wpC_mono hc (fun v s' h' => wpC_pure h') fun _ _ h' => h'))))

theorem wpC_initBa {b : Addr} {Q : Value → Shared → Prop} (hg : A.guards = some []) (hb : s.heap.get? b = some (baObj #[]))
    (h : Q .none { s with heap := s.heap.update b (Obj.mapBytearray fun _ => #[]) }) : wpC (model prog w) A (call (.builtin "bytearray.__init__") [.ref b]) Q E s := by
  refine wpC_call (codeC_call_builtin F.slot_ba_init.plain F.entry_ba_init F.held_ba_init ?_)
  refine F.slot_ba_init.check _ _ _ _ _ _ _ _ (typeIs_ba hb) (F.args_ba_init _) ?_
  unfold Builtin.«bytearray.__init__»
  refine wpC_leaf ?_
  unfold Builtin.Bytes.ownRelease Builtin.Bytes.slotIsOwn
  refine wpAny_bind (wpAny_bind (wpAny_specialOf (typeIs_ba hb) F.slot_ba_release.lookup ?_))
  refine bm_if_false (by decide +kernel) ?_
  refine wpAny_isInstance (T := "bytearray") (b := true) (typeIs_ba hb) ?_ ?_
  · have e : ("bytearray.__release_buffer__".dropRight ("__release_buffer__".length + 1)) = "bytearray" := by decide +kernel
    rw [e]; exact F.sub_ba
  refine wpAny_pure ?_
  refine wpC_false rfl ?_
  refine wpC_leaf (wpAny_of_eq F.bind_ba_init ?_)
  refine wpC_leaf (wpAny_of_eq (a := ()) rfl ?_)
  refine wpC_leaf (wpAny_of_eq (a := ()) rfl ?_)
  refine wpC_bind (wpC_bind (wpC_exported hg ?_))
  refine wpC_of ?_
  show wpAny _ _ (Builtin.Bytes.exportsOf (.ref b) >>= fun n => pure (decide (n > 0))) _ _ s
  refine wpAny_bind ?_
  unfold Builtin.Bytes.exportsOf
  refine wpAny_bind (wpAny_load hb ?_)
  refine wpAny_pure (wpAny_pure ?_)
  refine wpC_false rfl ?_
  refine wpC_leaf ?_
  show wpAny _ _ (updateBytearray b (fun _ => #[])) _ _ _
  unfold updateBytearray
  refine wpAny_bind (wpAny_load hb ?_)
  show wpAny _ _ (update b (Obj.mapBytearray (fun _ => #[])) >>= fun _ => lookBehind b) _ _ _
  refine wpAny_bind (wpAny_update hb ?_)
  have hS₂ : (s.heap.update b (Obj.mapBytearray (fun _ => #[]))).get? b = some (baObj #[]) :=
    Heap.get?_update_self (Obj.mapBytearray (fun _ => #[])) hb rfl
  refine wpAny_lookBehind hS₂ ?_ ?_
  · show (if (#[] : Array UInt8).size > sizeLine then some "bytearray:memory" else none) = none
    rw [if_neg (by decide)]
  · exact wpC_bind (wpC_pure (wpC_pure h))

theorem wpC_newBa {Q : Value → Shared → Prop} (hg : A.guards = some []) (h : Q (.ref s.heap.objs.size) { s with heap := (s.heap.push (baObj #[])).update s.heap.objs.size (Obj.mapBytearray fun _ => #[]) }) :
    wpC (model prog w) A (call (.type "bytearray") []) Q E s := by
  refine wpC_call (codeC_tree rfl ?_)
  show wpC _ _ (callAny (.type "bytearray") _) _ _ _
  refine wpC_pure ⟨Code.quiet_builtin _ (by decide +kernel), codeC_builtin PySem.F.entry_type_call (by decide +kernel) ?_⟩
  rw [Around.under_plain (weight_type_call_type _ _ _) rfl]
  unfold Builtin.«type.__call__»
  refine wpC_false F.called_ba.notType ?_
  refine wpC_false F.called_ba.canCreate ?_
  refine wpC_leaf (wpAny_of_eq F.typeCall_ba ?_)
  refine wpC_leaf (wpAny_of_eq F.mro_ba ?_)
  refine wpC_false rfl ?_
  refine wpC_leaf (wpAny_of_eq F.called_ba.made ?_)
  refine wpC_leaf (wpAny_pure ?_)
  refine wpC_leaf (wpAny_holding (wpAny_call (codeAny_mono (code_ba_new (E := E) (Q₁ := fun obj s₁ => obj = .ref s.heap.objs.size ∧ s₁ = { s with heap := s.heap.push (baObj #[]) }) ⟨rfl, rfl⟩) fun r s₁ hr => ?_)))
  rcases r with e | (obj | _ | _ | _)
  · exact hr
  · exact hr.elim
  · exact hr.elim
  · exact hr.elim
  · obtain ⟨rfl, rfl⟩ := hr
    have hb : (s.heap.push (baObj #[])).get? s.heap.objs.size = some (baObj #[]) := Heap.get?_push_size _ rfl
    refine wpC_leaf (wpAny_isInstance (T := "bytearray") (b := true) (typeIs_ba hb) F.sub_ba ?_)
    refine wpC_false rfl ?_
    refine wpC_bind (wpC_holding (wpC_callSpecial_slot (typeIs_ba hb) F.slot_ba_init (wpC_initBa hg hb ?_)))
    exact wpC_false rfl (wpC_pure h)
end
end
section
set_option maxRecDepth 100000
set_option maxHeartbeats 4000000
namespace F
theorem ba_no_bytes : typeLookup (.type "bytearray") "__bytes__" = pure none := by rw [typeLookup_type, builtinLookup_eq_fast]; kernel_rfl
theorem ba_no_index : typeLookup (.type "bytearray") "__index__" = pure none := by rw [typeLookup_type, builtinLookup_eq_fast]; kernel_rfl
theorem slot_ba_buffer : Slot "bytearray" "__buffer__" "bytearray.__buffer__" :=
  .of (owner := "bytearray") (n := "__buffer__") (by rw [typeLookup_type, builtinLookup_eq_fast]; kernel_rfl) (by decide +kernel) (by decide +kernel) (by decide +kernel)
    (by first | exact .inl (by decide +kernel) | exact .inr (by decide +kernel)) (by rw [isSubtype_type]; kernel_rfl)
end F

section
variable {prog : Program} {w : World} {A : Around} {E : Value → Shared → Prop} {s : Shared} {R : Result → Shared → Prop} {h₀ : Heap} {L : Addr} {m : Str → Option Value} {news : List (Addr × Obj)}
theorem wpC_newBaK {Q : Value → Shared → Prop} (F : Fr h₀ L s.heap m) (N : News h₀ L s.heap news) (hg : A.guards = some [])
    (h : ∀ b h', Fr h₀ L h' m → News h₀ L h' ((b, baObj #[]) :: news) → (∀ p ∈ news, p.1 < b) → Q (.ref b) { s with heap := h' }) :
    wpC (model prog w) A (call (.type "bytearray") []) Q E s := by
  refine wpC_newBa hg ?_
  have U := news_upd (d := s.heap.objs.size) (pre := []) (post := news) (o := baObj #[]) (o' := baObj #[]) (f := Obj.mapBytearray fun _ => #[]) (F.push (baObj #[])) (N.push F (baObj #[])) (fun _ h => nomatch h)
    (fun p hp => Nat.ne_of_lt (Heap.lt_size (N p hp).1)) rfl rfl
  exact h _ _ U.1 U.2 fun p hp => Heap.lt_size (N p hp).1

theorem wpAny_ownRelease {b : Addr} {arr : Array UInt8} {Q : Bool → Shared → Prop} (hb : s.heap.get? b = some (baObj arr)) (h : Q false s) : wpAny (model prog w) A (Builtin.Bytes.ownRelease (.ref b)) Q E s := by
  unfold Builtin.Bytes.ownRelease Builtin.Bytes.slotIsOwn
  refine wpAny_bind (wpAny_bind (wpAny_specialOf (typeIs_ba hb) F.slot_ba_release.lookup ?_))
  refine bm_if_false (by decide +kernel) ?_
  refine wpAny_isInstance (T := "bytearray") (b := true) (typeIs_ba hb) ?_ ?_
  · have e : ("bytearray.__release_buffer__".dropRight ("__release_buffer__".length + 1)) = "bytearray" := by decide +kernel
    rw [e]; exact F.sub_ba
  exact wpAny_pure h

theorem bytesNew_ba {b : Addr} {arr : Array UInt8} {Q : Value → Shared → Prop} (hb : s.heap.get? b = some (baObj arr)) (hz : arr.size ≤ sizeLine)
    (hQ : ∀ t k, Q (.bytes arr t) { s with toks := k }) :
    codeAny (model prog w) A (.call (.builtin "bytes.__new__") ⟨[.type "bytes", .ref b], []⟩) (wants Q E) s := by
  refine codeAny_of_tree ?_
  show wpAny _ A.in1 (do checkBuiltinCall "bytes.__new__" ⟨[.type "bytes", .ref b], []⟩; again (.builtin "bytes.__new__" ⟨[.type "bytes", .ref b], []⟩)) _ _ s
  refine wpAny_bind (wpAny_of_eq (PySem.F.bm_newCall _) (wpAny_pure ⟨plainId_quiet PySem.F.bm_plain _, codeAny_builtin PySem.F.bm_entry ?_⟩))
  rw [Around.under_plainId PySem.F.bm_plain _]
  have hT : s.TypeIs (.ref b) "bytearray" := typeIs_ba hb
  unfold Builtin.«bytes.__new__»
  refine wpAny_bind (wpAny_of_eq (a := true) rfl ?_)
  refine bm_if_false rfl ?_
  refine wpAny_bind (wpAny_of_eq PySem.F.bm_sub ?_)
  refine bm_if_false rfl ?_
  refine wpAny_bind (wpAny_of_eq (PySem.F.bm_bind _) ?_)
  refine wpAny_bind (wpAny_of_eq (a := ()) rfl ?_)
  refine wpAny_bind (wpAny_of_eq (a := ()) rfl ?_)
  refine bm_if_false rfl ?_
  refine wpAny_bind (wpAny_specialOf hT F.ba_no_bytes ?_)
  refine wpAny_bind (wpAny_bind ?_)
  show wpAny _ _ (load b >>= _) _ _ _
  refine wpAny_bind (wpAny_load hb ?_)
  refine wpAny_pure (wpAny_pure ?_)
  refine bm_if_false rfl ?_
  refine wpAny_bind (wpAny_specialOf hT F.ba_no_index ?_)
  refine bm_if_true rfl ?_
  first
    | show wpAny _ _ (Builtin.Bytes.buffer? "bytes.__new__" (.ref b) true >>= _) _ _ _
    | (refine wpAny_bind ?_; show wpAny _ _ (Builtin.Bytes.buffer? "bytes.__new__" (.ref b) true >>= _) _ _ _)
  refine wpAny_bind ?_
  unfold Builtin.Bytes.buffer?
  refine wpAny_bind (wpAny_specialOf hT F.slot_ba_buffer.lookup ?_)
  refine wpAny_bind ?_
  unfold Builtin.Bytes.slotIsOwn
  refine wpAny_bind (wpAny_specialOf hT F.slot_ba_buffer.lookup ?_)
  refine bm_if_false (by decide +kernel) ?_
  refine wpAny_isInstance (T := "bytearray") (b := true) hT ?_ ?_
  · have e : ("bytearray.__buffer__".dropRight ("__buffer__".length + 1)) = "bytearray" := by decide +kernel
    rw [e]; exact F.sub_ba
  refine bm_if_false rfl ?_
  refine wpAny_bind (wpAny_specialOf hT F.slot_ba_buffer.lookup ?_)
  refine wpAny_bind (wpAny_ownRelease hb ?_)
  refine bm_if_false rfl ?_
  refine wpAny_bind ?_
  unfold Builtin.Bytes.payload Builtin.Bytes.payload?
  refine wpAny_bind (wpAny_bind (wpAny_load hb ?_))
  refine wpAny_pure (wpAny_pure (wpAny_pure ?_))
  refine wpAny_bind (wpAny_rule ?_)
  refine wpAny_bind (wpAny_mkBytes ?_ hz)
  have fin := hQ s.toks (s.toks + 1)
  first
    | exact wpAny_pure fin
    | exact wpAny_bind (wpAny_pure (wpAny_pure fin))
    | (refine bm_if_true (by decide) ?_; first | exact wpAny_pure fin | exact wpAny_bind (wpAny_pure (wpAny_pure fin)) | exact wpAny_pure (wpAny_pure fin))

theorem call_bytes_ba {b : Addr} {arr : Array UInt8} {Q : Value → Shared → Prop} (hb : s.heap.get? b = some (baObj arr)) (hz : arr.size ≤ sizeLine)
    (hQ : ∀ t k, Q (.bytes arr t) { s with toks := k }) : wpAny (model prog w) A (call (.type "bytes") [.ref b]) Q E s := by
  refine callType_codes (Q₁ := fun obj s₁ => s₁.TypeIs obj "bytes" ∧ Q obj s₁) PySem.F.bm_called (PySem.F.bm_typeCall _) PySem.F.entry_object_init
    (bytesNew_ba hb hz fun t k => ⟨PySem.W.typeIs_bytes _ _ _, hQ t k⟩) fun obj s₁ h₁ => ?_
  exact ⟨h₁.1, PySem.F.args_object_init_2 obj _, object_init_meets PySem.F.bm_called.init.lookup PySem.F.bm_called.made (by decide) prog w A.in1 _ s₁ ⟨h₁.1, rfl, h₁.2⟩⟩
end
end
section
set_option maxRecDepth 100000
set_option maxHeartbeats 4000000
section
variable {prog : Program} {w : World} {A : Around} {s : Shared} {R : Result → Shared → Prop}
/-- a def's frame: no exception leaves the bodies that go this way -/
theorem codeC_func {body : List Stmt} {env : Env}
    (h : wpC (model prog w) (A.deeper env) (execs body env) (fun f s' => R (.ok (.ret (match f with | .ret v => v | _ => .none))) s') (fun _ _ => False) s) :
    codeC (model prog w) A (.func body env) R s := by
  refine codeC_tree rfl ?_
  show wpC _ (A.deeper env) (do point; match ← (execs body env).onRaise (leaving env) with | .ret v => ret v | _ => ret .none) _ _ s
  refine wpC_leaf (wpAny_point (wpC_bind (wpC_onRaise (wpC_mono h (fun f s' h' => ?_) fun _ _ h' => h'.elim))))
  cases f <;> exact wpC_pure h'

theorem codeC_function {a : Addr} {args : Args} {o : Obj} {fd : FuncData} {body : List Stmt} (hroom : A.depth < recursionLimit) (ho : s.heap.get? a = some o)
    (hd' : o.data = .func fd) (hco : fd.scope.isCoroutine = false) (hgen : fd.scope.isGenerator = false) (hbody : fd.body = .stmts body) (hcd : s.heap.CodeRec fd.code fd.qualname)
    (h : wpAny (model prog w) A.in1 (bindArgs fd args) (fun binds s₁ =>
      wpAny (model prog w) A.in1 (newFunctionEnv fd.scope fd.globals fd.closure binds (fd.qualname ++ ".<locals>.") (some a) fd.code none fd.builtins)
        (fun env s₂ => s₂.heap.NoLimit ∧ codeC (model prog w) A (.func body env) R s₂) (fun e s' => R (.error e) s') s₁) (fun e s' => R (.error e) s') s) :
    codeC (model prog w) A (.call (.ref a) args) R s := by
  refine codeC_tree rfl (wpC_of ?_)
  show wpAny _ A.in1 (callAny (.ref a) args) _ _ s
  simp only [callAny]
  refine wpAny_bind (wpAny_load ho ?_)
  obtain ⟨c, oc, vs, tq, hc, hoc, hdc, hq⟩ := hcd
  simp only [hd', callFunction, hco, hgen, hbody, hc]
  rw [hc] at h
  refine wpAny_bind (m := field (.ref c) 1) (wpAny_field hoc hdc hq (wpAny_bind (wpAny_pure ?_)))
  exact wpAny_bind (wpAny_mono h (fun binds s₁ h₁ => wpAny_bind (wpAny_mono h₁ (fun env s₂ h₂ => wpAny_bind (wpAny_enterFrame h₂.1 hroom
    (wpAny_pure (And.intro rfl h₂.2)))) fun _ _ h' => h')) fun _ _ h' => h')

/-- the law's own call, from the claim's caller: a def with cells -/
theorem codeC_cells {name : Str} {params : Arguments} {body : List Stmt} {scope : Scope} {pm cd doc : Value} {a : Addr} {o : Obj} {args : List Value} {binds : List (Str × Value)}
    (hroom : A.depth < recursionLimit) (ho : s.heap.get? a = some o) (hdata : o.data = .func (Calls.docDef name params body scope pm cd doc)) (hlim : s.heap.NoLimit) (hcd : s.heap.CodeRec cd name)
    (hbind : bindArgs (Calls.docDef name params body scope pm cd doc) ⟨args, []⟩ = pure binds)
    (hkind : ∀ x ∈ binds, scope.names.lookup x.1 = some .local ∨ (scope.names.lookup x.1 = some .cell ∧ ((cellsFrom (s.heap.objs.size + 1) scope.names []).lookup x.1).isSome = true))
    (hnd : ((cellsFrom 0 scope.names []).map (·.1)).Nodup)
    (h : ∀ h₁ tk cells, Fr s.heap s.heap.objs.size h₁ (bindL (envOfC name scope s.heap.objs.size a cd).kindOf binds fun _ => none) → News s.heap s.heap.objs.size h₁ cells →
      CellsAre (bindC (envOfC name scope s.heap.objs.size a cd).kindOf binds fun _ => none) (cellsFrom (s.heap.objs.size + 1) scope.names []) cells →
      wpC (model prog w) (A.deeper (envOfC name scope s.heap.objs.size a cd)) (execs body (envOfC name scope s.heap.objs.size a cd))
        (fun f s' => R (.ok (.ret (match f with | .ret v => v | _ => .none))) s') (fun _ _ => False) { s with heap := h₁, toks := tk })
    (hco : scope.isCoroutine = false := by rfl) (hgen : scope.isGenerator = false := by rfl) (hk : scope.kind = .function := by rfl) :
    codeC (model prog w) A (.call (.ref a) ⟨args, []⟩) R s := by
  refine codeC_function hroom ho hdata hco hgen rfl hcd (wpAny_of_eq hbind ?_)
  refine wpAny_newFunctionEnv_cells hk hkind fun env' he s' x => ?_
  subst he
  refine ⟨hlim.keeps x.toInCall.keep, codeC_func ?_⟩
  obtain ⟨h₁, tk, rfl, _⟩ := x.done
  obtain ⟨cells, N, Y⟩ := Cl.news (h₀ := s.heap) (Nat.le_refl _) fun n c hm => ⟨x.cell n c (lookup_of_mem_nodup (cellsFrom_names scope.names 0 (s.heap.objs.size + 1) [] [] rfl ▸ hnd) hm), x.above n c hm⟩
  exact h h₁ tk cells ⟨x.toInCall.ns, x.toInCall.keep, Nat.le_refl _⟩ N Y
end

section
variable {prog : Program} {w : World} {A₀ A : Around} {s : Shared} {base h₀ : Heap} {outer : List Env} {L : Addr} {m : Str → Option Value} {env : Env} {news : List (Addr × Obj)} {K : Frag}
  {R : Result → Shared → Prop} {name qual : Str} {params : Arguments} {body : List Stmt} {scope : Scope} {dV kV doc pm cdv ct oc : Value} {an od : Option Addr} {osl : Array (Option Value)} {f : Addr} {args : Args} {binds : List (Str × Value)}
  {p : Program} {loose : List Str} {mean : ExcName → Option Value} {mg mb : Str → Option Value}
/-- a def of the text's, called from a def of the text's (the kit's code_def, over tidy contexts) -/
theorem code_defW (B : Below A₀ base outer h₀) (F : Fr h₀ L s.heap m) (X₀ : K.In h₀) (N : News h₀ L s.heap news) (T : Top p loose mean mg mb h₀) (hA : A.frames = some (env :: outer)) (hf : env.frame = some L) (hke : env.scope.kind = .function)
    (ho : K.lookup f = some ⟨oc, od, .func (fnOf name qual params body scope dV kV doc pm an cdv ct), osl⟩) (hcd : codeIn K cdv qual = true) (hroom : A.depth < recursionLimit)
    (hbind : BindsTo s (fnOf name qual params body scope dV kV doc pm an cdv ct) args binds) (hloc : ∀ y ∈ binds, scope.names.lookup y.1 = some .local)
    (h : ∀ g L' h₁ tk, Fr h₀ L g m → Fr g L' h₁ (fun y => binds.reverse.lookup y) → News g L' h₁ news → Below A base (env :: outer) g → K.In g → Top p loose mean mg mb g → (∀ q ∈ news, q.1 < L') →
      wpC (model prog w) (A.deeper (envOf qual scope L' f cdv)) (execs body (envOf qual scope L' f cdv))
        (fun fl s' => LeaveK h₀ L m g R (match fl with | .ret v => v | _ => .none) s') (fun _ _ => False) { s with heap := h₁, toks := tk })
    (hco : scope.isCoroutine = false) (hgen : scope.isGenerator = false) (hk : scope.kind = .function)
    (hcell : ∀ x ∈ scope.names, x.2 ≠ .cell) : codeC (model prog w) A (.call (.ref f) args) R s := by
  obtain ⟨FG, BG, st, lv⟩ := groundX (R := R) B F N hA hf hke
  refine codeC_function hroom ((X₀.keeps F.keep) _ _ ho) rfl hco hgen rfl (codeRec_of (X₀.keeps F.keep) hcd) (hbind _ _ _ _ ?_)
  refine wpAny_newFunctionEnv hcell hloc (fun h₁ hns₁ hsb₁ => ⟨(T.nolimit.keeps F.keep).fresh _ hsb₁, codeC_func ?_⟩) hk
  have hk₁ : ∀ b o, s.heap.get? b = some o → h₁.get? b = some o := fun b o e => hsb₁.extBut b o (Nat.ne_of_lt (Heap.lt_size e)) (Heap.get?_push_of_some _ e)
  exact wpC_mono (h _ s.heap.objs.size h₁ _ FG ⟨hns₁, fun b o e => hk₁ b o (of_hideAll _ e), Nat.le_of_eq (hideAll_size _ _)⟩
    (fun q hq => ⟨hk₁ _ _ (N q hq).1, Nat.ne_of_lt (Heap.lt_size (N q hq).1), hideAll_none _ (List.mem_map_of_mem hq)⟩) BG (X₀.keeps st) (T.keeps st) fun q hq => Heap.lt_size (N q hq).1) (fun fl s' hl => lv _ _ hl) fun _ _ y => y
end
end
section
set_option maxRecDepth 100000
set_option maxHeartbeats 4000000
section
variable {prog : Program} {w : World} {A : Around} {R : Result → Shared → Prop} {E : Value → Shared → Prop}
theorem codeC_call_builtin_at {s : Shared} {id : String} {args : Args} {b : Builtin} (hq : (Code.builtin id args).quiet = true) (hb : entryFor table id = some b) (hh : Builtin.Bytes.decodersThatHold.contains id = false)
    (h : wpAny (model prog w) A.in1 (checkBuiltinCall id args) (fun _ s₁ => wpC (model prog w) (A.under (.builtin id args)) (b args)
      (fun fin s' => match fin with | .done f => R (.ok f) s' | .again c' => c'.quiet = true ∧ codeC (model prog w) A c' R s') (fun e s' => R (.error e) s') s₁)
      (fun e s' => R (.error e) s') s) : codeC (model prog w) A (.call (.builtin id) args) R s := by
  refine codeC_tree rfl ?_
  show wpC _ A.in1 (do checkBuiltinCall id args; again (.builtin id args)) _ _ s
  exact wpC_leaf (wpAny_mono h (fun _ s₁ h₁ => wpC_pure ⟨hq, codeC_builtin hb hh h₁⟩) fun _ _ h' => h')

/-- an own class without arguments is called: its __init__ over tidy contexts -/
theorem makeC {s : Shared} {K : Frag} {C L fI : Addr} {h₀ : Heap} {m : Str → Option Value} {news : List (Addr × Obj)} (F : Fr h₀ L s.heap m) (X₀ : K.In h₀) (N : News h₀ L s.heap news) (hm : makesIn K C = true)
    (hi : findIn K (.ref C) "__init__" = some (some (.ref fI))) (hf : isFn K (.ref fI) = true)
    (h : ∀ x dx h', Fr h₀ L h' m → News h₀ L h' ((x, instObj C dx) :: (dx, dictOf [] 0) :: news) → (∀ p ∈ news, p.1 < dx) → dx < x →
      codeC (model prog w) (A.under (.builtin "type.__call__" ⟨[.ref C], []⟩)) (.call (.ref fI) ⟨[.ref x], []⟩) (InitBack x R) { s with heap := h' }) :
    codeC (model prog w) A (.call (.ref C) ⟨[], []⟩) R s := by
  obtain ⟨hp, g, d, t, os⟩ := s
  have X := X₀.keeps F.keep
  have Y : Makes (model prog w) hp C := makes_of X hm
  have Y' := Y
  have hinit : Looks (model prog w) hp (typeLookup (.ref C) "__init__") (some (.ref fI)) := looks_findIn X hi
  have hb : ∀ self, Looks (model prog w) hp (bindSpecial (.ref fI) self) (.ref fI, [self]) := fun self => bind_fn X self (beq_iff_eq.mp hf)
  have NN := (N.push F emptyDict).push (F.push _) (instObj C hp.objs.size)
  rw [Heap.size_push] at NN
  have hq := h (hp.objs.size + 1) hp.objs.size _ ((F.push _).push _) NN (fun p hp => Heap.lt_size (N p hp).1) (Nat.lt_succ_self _)
  obtain ⟨⟨oc, od, cd, sl, hC, e1, e2, e4⟩, made, base, self, top, call, typ⟩ := Y
  refine codeC_tree rfl (wpC_of ?_)
  show wpAny _ _ (callAny (.ref C) _) _ _ _
  refine nd_load hC ?_
  show wpAny _ _ (callAny.viaDunder (.ref C) _) _ _ _
  unfold callAny.viaDunder
  refine wpAny_bind (call.at ?_)
  dsimp only
  rw [tc_bind]
  refine wpAny_bind (wpAny_pure (wpAny_bind (wpAny_pure ?_)))
  refine wpAny_pure (a := Fin.again (.call (.builtin "type.__call__") ⟨[.ref C], []⟩)) (And.intro rfl ?_)
  refine codeC_call_builtin_at (Code.quiet_builtin _ (by decide +kernel)) entry_typeCall (by decide +kernel) (check_slot tc_kind tc_split typ (tc_args _ _ _) ?_)
  unfold Builtin.«type.__call__»
  have hmro : Looks (model prog w) hp (mroOf (.ref C)) cd.mro := ((Looks.ld (part := none) hC).andThen .now).andThen .now
  refine wpC_false (by rfl) ?_
  refine wpC_leaf (hmro.at ?_)
  refine wpC_false e4 ?_
  refine wpC_leaf (made.at ?_)
  refine wpC_leaf (wpAny_pure ?_)
  refine wpC_leaf (wpAny_holding (wpAny_call (new_K Y' hinit (.inl rfl) ?_)))
  have k : ∀ b o, hp.get? b = some o → ((hp.push emptyDict).push (instObj C hp.objs.size)).get? b = some o := fun b o e => Heap.get?_push_of_some _ (Heap.get?_push_of_some _ e)
  have hx : ((hp.push emptyDict).push (instObj C hp.objs.size)).get? (hp.objs.size + 1) = some (instObj C hp.objs.size) := by heap_get
  have t1 : Looks (model prog w) ((hp.push emptyDict).push (instObj C hp.objs.size)) (typeOf (.ref (hp.objs.size + 1))) (.ref C) := (Looks.ld hx).andThen .now
  have s1 := self.keeps k
  have i1 := hinit.keeps k
  have b1 := (hb (.ref (hp.objs.size + 1))).keeps k
  refine wpC_leaf ?_
  unfold isInstance
  refine wpAny_bind (t1.at (s1.at ?_))
  refine wpC_false rfl ?_
  refine wpC_bind (wpC_holding ?_)
  unfold callSpecial? specialOf
  refine wpC_leaf (wpAny_bind (t1.at (i1.at ?_)))
  refine wpC_holding (wpC_leaf (b1.at ?_))
  refine wpC_bind (wpC_call (codeC_mono hq fun r s' z => ?_))
  rcases r with e | (_ | _ | _ | v)
  · exact z
  · exact z.elim
  · exact z.elim
  · exact z.elim
  · obtain ⟨rfl, z⟩ := z
    exact wpC_pure (wpC_false rfl (wpC_pure z))

/-- the class's call, as a tree -/
theorem callC_make {s : Shared} {K : Frag} {C L fI : Addr} {h₀ : Heap} {m : Str → Option Value} {news : List (Addr × Obj)} {Q : Value → Shared → Prop} (F : Fr h₀ L s.heap m) (X₀ : K.In h₀) (N : News h₀ L s.heap news) (hm : makesIn K C = true)
    (hi : findIn K (.ref C) "__init__" = some (some (.ref fI))) (hf : isFn K (.ref fI) = true)
    (h : ∀ x dx h', Fr h₀ L h' m → News h₀ L h' ((x, instObj C dx) :: (dx, dictOf [] 0) :: news) → (∀ p ∈ news, p.1 < dx) → dx < x →
      codeC (model prog w) (A.under (.builtin "type.__call__" ⟨[.ref C], []⟩)) (.call (.ref fI) ⟨[.ref x], []⟩) (InitBack x fun r s' => match r with | .ok (.ret v) => Q v s' | .ok _ => False | .error e => E e s') { s with heap := h' }) :
    wpC (model prog w) A (call (.ref C) [] []) Q E s := wpC_call (makeC F X₀ N hm hi hf h)
end
end
section
set_option maxRecDepth 100000
set_option maxHeartbeats 4000000

/-- of the contexts all of whose codes pass a sieve: wpAny and wpC at once -/
def wpS {α : Type} (K : Code → Bool) (M : Model) (A : Around) (t : Sem α) (Q : α → Shared → Prop) (E : Value → Shared → Prop) (s : Shared) : Prop :=
  ∀ Γ p, Γ.In A → K Γ.code = true → (∀ x ∈ Γ.below, K x.1 = true) → Sem.wp M Γ t (fun a _ s' => Q a s') (fun e _ s' => E e s') p s
def codeS (K : Code → Bool) (M : Model) (A : Around) (c : Code) (R : Result → Shared → Prop) (s : Shared) : Prop :=
  ∀ Γ p, Γ.code = c → Γ.Below A → (∀ x ∈ Γ.below, K x.1 = true) → wpCode M Γ R p s
def allK (_ : Code) : Bool := true
def tidyK (c : Code) : Bool := !holdsMem c

section
variable {α β : Type} {K : Code → Bool} {M : Model} {A : Around} {E : Value → Shared → Prop} {s : Shared}
theorem wpS_any {t : Sem α} {Q : α → Shared → Prop} (h : wpS allK M A t Q E s) : wpAny M A t Q E s := fun Γ p hΓ => h Γ p hΓ rfl fun _ _ => rfl
theorem wpS_C {t : Sem α} {Q : α → Shared → Prop} (h : wpS tidyK M A t Q E s) : wpC M A t Q E s := fun Γ p hΓ h1 h2 => h Γ p hΓ (by unfold tidyK; rw [h1]; rfl) fun x hx => by unfold tidyK; rw [h2 x hx]; rfl
theorem C_wpS {t : Sem α} {Q : α → Shared → Prop} (h : wpC M A t Q E s) : wpS tidyK M A t Q E s := fun Γ p hΓ h1 h2 => h Γ p hΓ (by unfold tidyK at h1; simpa using h1) fun x hx => by have := h2 x hx; unfold tidyK at this; simpa using this
theorem wpS_of {t : Sem α} {Q : α → Shared → Prop} (h : wpAny M A t Q E s) : wpS K M A t Q E s := fun Γ p hΓ _ _ => h Γ p hΓ
theorem wpS_mono {t : Sem α} {Q Q' : α → Shared → Prop} {E' : Value → Shared → Prop} (h : wpS K M A t Q E s)
    (hQ : ∀ a s, Q a s → Q' a s) (hE : ∀ e s, E e s → E' e s) : wpS K M A t Q' E' s :=
  fun Γ p hΓ h1 h2 => Sem.wp_mono M Γ t (fun a _ s => hQ a s) (fun e _ s => hE e s) p s (h Γ p hΓ h1 h2)
theorem wpS_bind {m : Sem α} {f : α → Sem β} {Q : β → Shared → Prop} (h : wpS K M A m (fun a s' => wpS K M A (f a) Q E s') E s) :
    wpS K M A (m >>= f) Q E s := fun Γ p hΓ h1 h2 => by
  rw [Sem.wp_bind']
  exact Sem.wp_mono M Γ m (fun a p' s' h' => h' Γ p' hΓ h1 h2) (fun _ _ _ h' => h') p s (h Γ p hΓ h1 h2)
theorem wpS_leaf {m : Sem α} {f : α → Sem β} {Q : β → Shared → Prop} (h : wpAny M A m (fun a s' => wpS K M A (f a) Q E s') E s) :
    wpS K M A (m >>= f) Q E s := wpS_bind (wpS_of h)
theorem wpS_onRaise {m : Sem α} {k : Value → Sem Unit} {Q : α → Shared → Prop}
    (h : wpS K M A m Q (fun _ _ => False) s) : wpS K M A (m.onRaise k) Q E s := fun Γ p hΓ h1 h2 => by
  rw [Sem.wp_onRaise]
  exact Sem.wp_mono M Γ m (fun _ _ _ h' => h') (fun e p' s' h' => h'.elim) p s (h Γ p hΓ h1 h2)
theorem wpS_run {c : Code} {Q : Flow → Shared → Prop}
    (hc : codeS K M A c (fun r s' => match r with | .ok f => Q f s' | .error e => E e s') s) : wpS K M A (run c) Q E s :=
  fun Γ p hΓ h1 h2 => by
    rw [Sem.wp_run]
    exact hc _ p rfl (hΓ.enter c none p (by intro x; cases x)) fun x hx => by
      rcases List.mem_cons.mp hx with rfl | hx
      · exact h1
      · exact h2 x hx
theorem codeS_tree {c : Code} {R : Result → Shared → Prop} (hK : K c = true)
    (h : wpS K M (A.under c) (M.den c) (fun fin s' => match fin with | .done f => R (.ok f) s' | .again c' => c'.quiet = true ∧ codeS K M A c' R s')
      (fun e s' => R (.error e) s') s) : codeS K M A c R s := fun Γ p hc hΓ ht => by
  rw [wpCode_iff_wp, hc]
  refine Sem.wp_mono M Γ _ (fun fin p' s' h' => ?_) (fun _ _ _ h' => h') p s (h Γ p (hc ▸ hΓ.in) (hc ▸ hK) ht)
  cases fin with
  | done f => exact h'
  | again c' => exact ⟨h'.1, h'.2 (Γ.goto c') p' rfl (hΓ.goto c') ht⟩
end

/-- what a turn hands on -/
def TurnEnd (h₀ : Heap) (L I : Addr) (it : Obj) (J : (Str → Option Value) → List (Addr × Obj) → Prop) (s₀ : Shared) (Q : Flow → Shared → Prop) (f : Flow) (s' : Shared) : Prop :=
  match f with
  | .ret v => Q (.ret v) s'
  | .brk => Q .next s'
  | _ => ∃ h' tk' m' news', s' = { s₀ with heap := h', toks := tk' } ∧ Fr h₀ L h' m' ∧ News h₀ L h' ((I, it) :: news') ∧ J m' news'
theorem TurnEnd.next {h₀ : Heap} {L I : Addr} {it : Obj} {J : (Str → Option Value) → List (Addr × Obj) → Prop} {s₀ : Shared} {Q : Flow → Shared → Prop} {h' : Heap} {tk' : Nat} {m' : Str → Option Value} {led news' : List (Addr × Obj)}
    (F : Fr h₀ L h' m') (N : News h₀ L h' led) (hn : ∀ p ∈ (I, it) :: news', p ∈ led) (j : J m' news') : TurnEnd h₀ L I it J s₀ Q .next { s₀ with heap := h', toks := tk' } :=
  ⟨h', tk', m', news', rfl, F, fun p hp => N p (hn p hp), j⟩

section
variable {K : Code → Bool} {prog : Program} {w : World} {A : Around} {E : Value → Shared → Prop} {env : Env} {h₀ : Heap} {x : Str} {px : Pos} {body : List Stmt} {I : Addr} {n : Nat} {It : Nat → Obj → Prop} {Val : Nat → Value → Prop} {Q : Flow → Shared → Prop} {s₀ : Shared}
theorem forRule (J : Nat → (Str → Option Value) → List (Addr × Obj) → Prop) (Side : Heap → Prop)
    (hK : K (.forLoop (.Name x px) (.ref I) body [] env) = true) (hKb : K (.block [] env) = true) (hk : env.scope.kind = .function) (hx : env.kindOf x = some .local)
    (item : ∀ (i : Nat) (o : Obj) (s : Shared) (Q : Option Value → Shared → Prop) (E : Value → Shared → Prop), i < n → s.heap.get? I = some o → It i o → Side s.heap →
      (∀ h' o' v tk, h'.get? I = some o' → It (i + 1) o' → Val i v → Heap.SameBut I s.heap h' → Q (some v) { s with heap := h', toks := tk }) → wpAny (model prog w) A (pyNext (.ref I)) Q E s)
    (fin : ∀ (o : Obj) (s : Shared) (Q : Option Value → Shared → Prop) (E : Value → Shared → Prop), s.heap.get? I = some o → It n o → Side s.heap →
      (∀ h' tk, (∀ b o, b ≠ I → s.heap.get? b = some o → h'.get? b = some o) → Q none { s with heap := h', toks := tk }) → wpAny (model prog w) A (pyNext (.ref I)) Q E s)
    (side : ∀ i m news h, i ≤ n → J i m news → Fr h₀ env.locals h m → News h₀ env.locals h news → Side h)
    (sep : ∀ i m news, i ≤ n → J i m news → ∀ p ∈ news, p.1 ≠ I)
    (turn : ∀ i v o m news h tk, i < n → Val i v → J i m news → Fr h₀ env.locals h (fun y => if y = x then some v else m y) → News h₀ env.locals h ((I, o) :: news) →
      wpS K (model prog w) A (execs body env) (TurnEnd h₀ env.locals I o (J (i + 1)) s₀ Q) (fun _ _ => False) { s₀ with heap := h, toks := tk })
    (done : ∀ m news h tk, J n m news → Fr h₀ env.locals h m → News h₀ env.locals h news → Q .next { s₀ with heap := h, toks := tk }) :
    ∀ {m : Str → Option Value} {news : List (Addr × Obj)} {h : Heap} {tk : Nat} {o : Obj}, J 0 m news → It 0 o → Fr h₀ env.locals h m → News h₀ env.locals h ((I, o) :: news) →
      wpS K (model prog w) A (runOwn (.forLoop (.Name x px) (.ref I) body [] env) env) Q E { s₀ with heap := h, toks := tk } := by
  have key : ∀ (k i : Nat), n - i = k → i ≤ n → ∀ {m : Str → Option Value} {news : List (Addr × Obj)} {h : Heap} {tk : Nat} {o : Obj}, J i m news → It i o → Fr h₀ env.locals h m → News h₀ env.locals h ((I, o) :: news) →
      codeS K (model prog w) A (.forLoop (.Name x px) (.ref I) body [] env) (fun r s' => match r with | .ok f => Q f s' | .error _ => False) { s₀ with heap := h, toks := tk } := by
    intro k
    induction k with
    | zero =>
      intro i hki hle m news h tk o hJ hO F N
      have hin : i = n := by omega
      subst hin
      refine codeS_tree hK ?_
      rw [Around.under_of_weight (c := .forLoop (.Name x px) (.ref I) body [] env) rfl]
      show wpS K _ A ((forTurn (.Name x px) (.ref I) body [] env).onRaise _) _ _ _
      refine wpS_onRaise ?_
      show wpS K _ A (standAt _ >>= fun _ => _) _ _ _
      refine wpS_leaf (wpAny_standAt ?_)
      have hI := (N (I, o) (.head _)).1
      have N1 : News h₀ env.locals h news := fun p hp => N p (.tail _ hp)
      refine wpS_leaf (wpAny_onRaise (fin o { s₀ with heap := h, toks := tk } _ _ hI hO (side i m news h hle hJ F N1) fun h' tk' hs => ?_))
      refine wpS_of (wpAny_pure ⟨rfl, ?_⟩)
      refine codeS_tree hKb (wpS_of ?_)
      rw [Around.under_of_weight (c := .block [] env) rfl]
      show wpAny _ A ((execs [] env).onRaise _ >>= fun f => pure (PySem.Fin.done f)) _ _ _
      refine wpAny_bind (wpAny_onRaise ?_)
      show wpAny _ A (pure Flow.next) _ _ _
      refine wpAny_pure (wpAny_pure ?_)
      have hIn : h₀.get? I = none := (N (I, o) (.head _)).2.2
      have hIL : I ≠ env.locals := (N (I, o) (.head _)).2.1
      refine done m news h' tk' hJ ?_ fun p hp => ⟨hs _ _ (sep i m news hle hJ p hp) (N1 p hp).1, (N1 p hp).2⟩
      refine ⟨F.ns.at' fun o e => hs _ o (Ne.symm hIL) e, fun b o e => hs b o (fun q => by rw [q, hIn] at e; cases e) (F.keep b o e), F.above⟩
    | succ k ih =>
      intro i hki hle m news h tk o hJ hO F N
      have hlt : i < n := by omega
      refine codeS_tree hK ?_
      rw [Around.under_of_weight (c := .forLoop (.Name x px) (.ref I) body [] env) rfl]
      show wpS K _ A ((forTurn (.Name x px) (.ref I) body [] env).onRaise _) _ _ _
      refine wpS_onRaise ?_
      show wpS K _ A (standAt _ >>= fun _ => _) _ _ _
      refine wpS_leaf (wpAny_standAt ?_)
      have hI := (N (I, o) (.head _)).1
      have N1 : News h₀ env.locals h news := fun p hp => N p (.tail _ hp)
      have hIn : h₀.get? I = none := (N (I, o) (.head _)).2.2
      have hIL : I ≠ env.locals := (N (I, o) (.head _)).2.1
      refine wpS_leaf (wpAny_onRaise (item i o { s₀ with heap := h, toks := tk } _ _ hlt hI hO (side i m news h hle hJ F N1) fun h' o' v tk' hI' hO' hV hs => ?_))
      have F' : Fr h₀ env.locals h' m := ⟨F.ns.sameBut hs (Ne.symm hIL), fun b o e => hs.extBut b o (fun q => by rw [q, hIn] at e; cases e) (F.keep b o e), F.above⟩
      have N' : News h₀ env.locals h' ((I, o') :: news) := fun p hp => by
        rcases List.mem_cons.mp hp with rfl | hp
        · exact ⟨hI', hIL, hIn⟩
        · exact ⟨hs.extBut _ _ (sep i m news hle hJ p hp) (N1 p hp).1, (N1 p hp).2⟩
      refine wpS_leaf (wpAny_pure ?_)
      show wpS K _ A ((standAt px >>= fun _ => holding [v] point >>= fun _ => storeName env x v >>= fun _ => point) >>= fun _ => _) _ _ _
      refine wpS_leaf (wpAny_bind (wpAny_standAt (wpAny_bind (wpAny_holding (wpAny_point (wpAny_bind ?_))))))
      refine wpAny_storeName_local hx F'.ns (fun h₂ hn hs₂ => wpAny_point ?_) (by
        show (env.scope.kind == .class || (env.scope.kind == .module && env.locals != env.globals)) = false
        rw [hk]; rfl)
      have F₂ : Fr h₀ env.locals h₂ (fun y => if y = x then some v else m y) := F'.set hn hs₂
      have N₂ := N'.set hs₂
      refine wpS_bind (wpS_mono (turn i v o' m news h₂ (tk' + 1) hlt hV hJ F₂ N₂) (fun f s' hf => ?_) fun _ _ e => e)
      cases f with
      | ret v => exact wpS_of (wpAny_pure hf)
      | brk => exact wpS_of (wpAny_pure hf)
      | next =>
        obtain ⟨h3, tk3, m3, news3, rfl, F3, N3, J3⟩ := hf
        exact wpS_of (wpAny_pure ⟨rfl, ih (i + 1) (by omega) hlt J3 hO' F3 N3⟩)
      | cont =>
        obtain ⟨h3, tk3, m3, news3, rfl, F3, N3, J3⟩ := hf
        exact wpS_of (wpAny_pure ⟨rfl, ih (i + 1) (by omega) hlt J3 hO' F3 N3⟩)
  intro m news h tk o hJ hO F N
  unfold runOwn
  refine wpS_onRaise (wpS_run ?_)
  intro Γ p hc hΓ ht
  exact wpCode_mono (fun r s' hr => by cases r <;> exact hr) (key n 0 (by omega) (Nat.zero_le _) hJ hO F N Γ p hc hΓ ht)
end

section
variable {K : Code → Bool} {prog : Program} {w : World} {A : Around} {E : Value → Shared → Prop} {env : Env} {h₀ : Heap} {x : Str} {px : Pos} {body : List Stmt} {n : Nat} {Q : Flow → Shared → Prop} {s : Shared} {m : Str → Option Value} {news : List (Addr × Obj)}
theorem exec_forS {iter : Expr} {pos : Pos} (h : wpAny (model prog w) A (eval iter env) (fun xv s₁ => wpAny (model prog w) A (pyIter xv) (fun it s₂ => wpS K (model prog w) A (runOwn (.forLoop (.Name x px) it body [] env) env) Q E s₂) E s₁) E s)
    (hs : ∀ v, foldedSetIterable iter env v = pure v := by intro _; rfl) : wpS K (model prog w) A (exec (.For (.Name x px) iter body [] pos) env) Q E s := by
  rw [exec_For]
  refine wpS_leaf (wpAny_standAt (wpS_leaf (wpAny_mono h (fun xv s₁ h₁ => ?_) fun _ _ e => e)))
  refine wpS_leaf (wpAny_of_eq (hs xv) (wpS_leaf (wpAny_standAt (wpS_leaf (wpAny_holding h₁)))))

theorem forRange {r : Addr} {a b c : Int} {t u v : Tok} (J : Nat → (Str → Option Value) → List (Addr × Obj) → Prop) (hh : A.handled = none)
    (hK : ∀ I, K (.forLoop (.Name x px) (.ref I) body [] env) = true) (hKb : K (.block [] env) = true) (hk : env.scope.kind = .function) (hx : env.kindOf x = some .local)
    (hr : IsRange s.heap r a b c t u v) (hsm : Builtin.Range.small a b c = true) (hn : Builtin.Range.rangeSize a b c = (n : Int)) (F : Fr h₀ env.locals s.heap m) (N : News h₀ env.locals s.heap news) (h0 : J 0 m news)
    (sep : ∀ I i m' news', (∀ p ∈ news, p.1 < I) → i ≤ n → J i m' news' → ∀ p ∈ news', p.1 ≠ I)
    (turn : ∀ I, (∀ p ∈ news, p.1 < I) → ∀ i tk o m' news' h tk', i < n → J i m' news' → Fr h₀ env.locals h (fun y => if y = x then some (.int (a + (i : Int) * c) tk) else m' y) → News h₀ env.locals h ((I, o) :: news') →
      wpS K (model prog w) A (execs body env) (TurnEnd h₀ env.locals I o (J (i + 1)) s Q) (fun _ _ => False) { s with heap := h, toks := tk' })
    (done : ∀ m' news' h tk, J n m' news' → Fr h₀ env.locals h m' → News h₀ env.locals h news' → Q .next { s with heap := h, toks := tk }) :
    wpAny (model prog w) A (pyIter (.ref r)) (fun it s₂ => wpS K (model prog w) A (runOwn (.forLoop (.Name x px) it body [] env) env) Q E s₂) E s := by
  refine wpAny_pyIter_range hr hsm ?_
  have hI : ∀ p ∈ news, p.1 < s.heap.objs.size := fun p hp => Heap.lt_size (N p hp).1
  refine forRule (n := n) (It := fun i o => o = { cls := .type "range_iterator", data := .fields #[rawInt (a + (i : Int) * c), rawInt ((n : Int) - (i : Int)), rawInt c] })
    (Val := fun i v => ∃ tk, v = .int (a + (i : Int) * c) tk) J (fun _ => True) (hK _) hKb hk hx ?_ ?_ (fun _ _ _ _ _ _ _ _ => trivial) (fun i m' news' hi hj => sep _ i m' news' hI hi hj) ?_ done h0 ?_ (F.push _) (N.push F _)
  · intro i o s Q E hi ho hO _ hQ
    subst hO
    refine wpAny_pyNext_range_item ho (by omega) fun h' hit' hs' => ?_
    refine hQ h' _ _ _ hit' ?_ ⟨_, rfl⟩ hs'
    have e1 : a + ((i + 1 : Nat) : Int) * c = a + (i : Int) * c + c := by push_cast; rw [Int.add_mul, Int.one_mul, Int.add_assoc]
    have e2 : (n : Int) - ((i + 1 : Nat) : Int) = (n : Int) - (i : Int) - 1 := by push_cast; omega
    rw [e1, e2]
  · intro o s Q E ho hO _ hQ
    subst hO
    exact wpAny_pyNext_range_end hh ho (by omega) fun h' he' => hQ h' s.toks fun b o hb e => he' b o hb e
  · rintro i v o m' news' h tk hi ⟨tk1, rfl⟩ hj F' N'
    exact turn _ hI i tk1 o m' news' h tk hi hj F' N'
  · rw [hn]
    simp

/-- for x in a list: its ledger's entry (or the base's) stays -/
theorem forList {l : Addr} {items : Array Value} (J : Nat → (Str → Option Value) → List (Addr × Obj) → Prop) (hh : A.handled = none)
    (hK : ∀ I, K (.forLoop (.Name x px) (.ref I) body [] env) = true) (hKb : K (.block [] env) = true) (hk : env.scope.kind = .function) (hx : env.kindOf x = some .local)
    (hl : s.heap.IsList l items) (F : Fr h₀ env.locals s.heap m) (N : News h₀ env.locals s.heap news) (h0 : J 0 m news)
    (side : ∀ i m' news' h, i ≤ items.size → J i m' news' → Fr h₀ env.locals h m' → News h₀ env.locals h news' → h.IsList l items)
    (sep : ∀ I i m' news', (∀ p ∈ news, p.1 < I) → i ≤ items.size → J i m' news' → ∀ p ∈ news', p.1 ≠ I)
    (turn : ∀ I, (∀ p ∈ news, p.1 < I) → ∀ i v o m' news' h tk', items[i]? = some v → J i m' news' → Fr h₀ env.locals h (fun y => if y = x then some v else m' y) → News h₀ env.locals h ((I, o) :: news') →
      wpS K (model prog w) A (execs body env) (TurnEnd h₀ env.locals I o (J (i + 1)) s Q) (fun _ _ => False) { s with heap := h, toks := tk' })
    (done : ∀ m' news' h tk, J items.size m' news' → Fr h₀ env.locals h m' → News h₀ env.locals h news' → Q .next { s with heap := h, toks := tk }) :
    wpAny (model prog w) A (pyIter (.ref l)) (fun it s₂ => wpS K (model prog w) A (runOwn (.forLoop (.Name x px) it body [] env) env) Q E s₂) E s := by
  refine wpAny_pyIter_list hl ?_
  have hI : ∀ p ∈ news, p.1 < s.heap.objs.size := fun p hp => Heap.lt_size (N p hp).1
  refine forRule (n := items.size) (It := fun i o => o.cls = .type "list_iterator" ∧ o.data = .fields #[.ref l, .int i 0])
    (Val := fun i v => items[i]? = some v) J (fun h => h.IsList l items) (hK _) hKb hk hx ?_ ?_ side (fun i m' news' hi hj => sep _ i m' news' hI hi hj) ?_ done h0 ⟨rfl, rfl⟩ (F.push _) (N.push F _)
  · intro i o s Q E hi ho hO hS hQ
    refine wpAny_pyNext_list_item (x := items[i]) ⟨o, ho, hO.1, hO.2⟩ hS (by simp [hi]) fun h' hit' hs' => ?_
    obtain ⟨o', ho', hc', hd'⟩ := hit'
    exact hQ h' o' _ s.toks ho' ⟨hc', hd'⟩ (by simp [hi]) hs'
  · intro o s Q E ho hO hS hQ
    exact wpAny_pyNext_list_end hh ⟨o, ho, hO.1, hO.2⟩ hS (by simp) fun h' he' => hQ h' s.toks fun b o hb e => he' b o hb e
  · intro i v o m' news' h tk hi hv hj F' N'
    exact turn _ hI i v o m' news' h tk hv hj F' N'

/-- the word may name the frame's map ahead of the loop -/
theorem forRangeM {r : Addr} {a b c : Int} {t u v : Tok} (J : (Str → Option Value) → Nat → (Str → Option Value) → List (Addr × Obj) → Prop) (hh : A.handled = none)
    (hK : ∀ I, K (.forLoop (.Name x px) (.ref I) body [] env) = true) (hKb : K (.block [] env) = true) (hk : env.scope.kind = .function) (hx : env.kindOf x = some .local)
    (hr : IsRange s.heap r a b c t u v) (F : Fr h₀ env.locals s.heap m) (N : News h₀ env.locals s.heap news) (hsm : Builtin.Range.small a b c = true) (hn : Builtin.Range.rangeSize a b c = (n : Int)) (h0 : J m 0 m news)
    (sep : ∀ I i m' news', (∀ p ∈ news, p.1 < I) → i ≤ n → J m i m' news' → ∀ p ∈ news', p.1 ≠ I)
    (turn : ∀ I, (∀ p ∈ news, p.1 < I) → ∀ i tk o m' news' h tk', i < n → J m i m' news' → Fr h₀ env.locals h (fun y => if y = x then some (.int (a + (i : Int) * c) tk) else m' y) → News h₀ env.locals h ((I, o) :: news') →
      wpS K (model prog w) A (execs body env) (TurnEnd h₀ env.locals I o (J m (i + 1)) s Q) (fun _ _ => False) { s with heap := h, toks := tk' })
    (done : ∀ m' news' h tk, J m n m' news' → Fr h₀ env.locals h m' → News h₀ env.locals h news' → Q .next { s with heap := h, toks := tk }) :
    wpAny (model prog w) A (pyIter (.ref r)) (fun it s₂ => wpS K (model prog w) A (runOwn (.forLoop (.Name x px) it body [] env) env) Q E s₂) E s :=
  forRange (J m) hh hK hKb hk hx hr hsm hn F N h0 sep turn done
theorem forListM {l : Addr} {items : Array Value} (J : (Str → Option Value) → Nat → (Str → Option Value) → List (Addr × Obj) → Prop) (hh : A.handled = none)
    (hK : ∀ I, K (.forLoop (.Name x px) (.ref I) body [] env) = true) (hKb : K (.block [] env) = true) (hk : env.scope.kind = .function) (hx : env.kindOf x = some .local)
    (hl : s.heap.IsList l items) (F : Fr h₀ env.locals s.heap m) (N : News h₀ env.locals s.heap news) (h0 : J m 0 m news)
    (side : ∀ i m' news' h, i ≤ items.size → J m i m' news' → Fr h₀ env.locals h m' → News h₀ env.locals h news' → h.IsList l items)
    (sep : ∀ I i m' news', (∀ p ∈ news, p.1 < I) → i ≤ items.size → J m i m' news' → ∀ p ∈ news', p.1 ≠ I)
    (turn : ∀ I, (∀ p ∈ news, p.1 < I) → ∀ i v o m' news' h tk', items[i]? = some v → J m i m' news' → Fr h₀ env.locals h (fun y => if y = x then some v else m' y) → News h₀ env.locals h ((I, o) :: news') →
      wpS K (model prog w) A (execs body env) (TurnEnd h₀ env.locals I o (J m (i + 1)) s Q) (fun _ _ => False) { s with heap := h, toks := tk' })
    (done : ∀ m' news' h tk, J m items.size m' news' → Fr h₀ env.locals h m' → News h₀ env.locals h news' → Q .next { s with heap := h, toks := tk }) :
    wpAny (model prog w) A (pyIter (.ref l)) (fun it s₂ => wpS K (model prog w) A (runOwn (.forLoop (.Name x px) it body [] env) env) Q E s₂) E s :=
  forList (J m) hh hK hKb hk hx hl F N h0 side sep turn done
end
end
section
set_option maxRecDepth 100000
set_option maxHeartbeats 4000000
section
variable {M : Model} {A : Around} {E : Value → Shared → Prop} {s : Shared} {env : Env}

theorem wpC_nil {Q : Flow → Shared → Prop} (h : Q .next s) : wpC M A (execs [] env) Q E s := wpC_pure h
theorem wpC_cons {st : Stmt} {rest : List Stmt} {Q : Flow → Shared → Prop}
    (h : wpC M A (exec st env) (fun f s' => match f with | .next => wpC M A (execs rest env) Q E s' | f => Q f s') E s) : wpC M A (execs (st :: rest) env) Q E s := by
  rw [execs_cons]
  refine wpC_bind (wpC_mono h (fun f s' h' => ?_) fun _ _ e => e)
  cases f <;> first | exact h' | exact wpC_pure h'
/-- a statement without a tidy call: the kit's walk does it -/
theorem wpC_consL {st : Stmt} {rest : List Stmt} {Q : Flow → Shared → Prop}
    (h : wpAny M A (exec st env) (fun f s' => match f with | .next => wpC M A (execs rest env) Q E s' | f => Q f s') E s) : wpC M A (execs (st :: rest) env) Q E s := wpC_cons (wpC_of h)

theorem dropNone (e : Expr) (pos : Pos) : dropValue e pos .none = pure .next := by cases e <;> rfl
theorem wpC_Expr {e : Expr} {pos : Pos} {Q : Flow → Shared → Prop} (h : wpC M A (eval e env) (fun v s' => v = .none ∧ Q .next s') E s)
    (hi : interactive env = false := by rfl) (hs : swapsWith e none pos.line env = pure false := by rfl) : wpC M A (exec (.Expr e pos) env) Q E s := by
  rw [exec_Expr env e pos hi hs]
  refine wpC_leaf (wpAny_standAt (wpC_bind (wpC_mono h (fun v s' hv => ?_) fun _ _ e => e)))
  obtain ⟨rfl, hq⟩ := hv
  rw [dropNone]
  exact wpC_pure hq
theorem wpC_If {test : Expr} {body orelse : List Stmt} {pos : Pos} {Q : Flow → Shared → Prop}
    (h : wpC M A (isTrue test env (eval test env)) (fun b s₂ => if b = true then wpC M A (execs body env) Q E s₂ else wpC M A (execs orelse env) Q E s₂) E s) :
    wpC M A (exec (.If test body orelse pos) env) Q E s := by
  rw [exec_If]
  refine wpC_leaf (wpAny_standAt (wpC_bind (wpC_mono h (fun b s₂ h₂ => ?_) fun _ _ e => e)))
  cases b <;> exact h₂
theorem wpC_IfL {test : Expr} {body orelse : List Stmt} {pos : Pos} {Q : Flow → Shared → Prop}
    (h : wpAny M A (isTrue test env (eval test env)) (fun b s₂ => if b = true then wpC M A (execs body env) Q E s₂ else wpC M A (execs orelse env) Q E s₂) E s) :
    wpC M A (exec (.If test body orelse pos) env) Q E s := wpC_If (wpC_of h)
theorem wpC_Return {e : Expr} {pos : Pos} {Q : Flow → Shared → Prop} (h : wpC M A (eval e env) (fun v s' => Q (.ret v) s') E s) : wpC M A (exec (.Return (some e) pos) env) Q E s := by
  rw [exec_Return_some]
  exact wpC_leaf (wpAny_standAt (wpC_bind (wpC_mono h (fun v s' hv => wpC_pure hv) fun _ _ e => e)))
theorem wpC_Assign {t value : Expr} {pos : Pos} {Q : Flow → Shared → Prop}
    (h : wpC M A (eval value env) (fun v s₁ => wpAny M A (assign t env v) (fun _ s₂ => Q .next s₂) E s₁) E s)
    (hs : swapsWithSole [t] value pos.line env = pure false := by rfl) (hw : swappedStores [t] value env = pure none := by rfl) (he : (assignEach [t] env).map (·.2) = [assign t env] := by rfl) :
    wpC M A (exec (.Assign [t] value pos) env) Q E s := by
  rw [exec_Assign_arm]
  refine wpC_leaf (wpAny_standAt ?_)
  rw [hs]
  refine wpC_leaf (wpAny_pure ?_)
  rw [if_neg (by decide)]
  refine wpC_bind (wpC_mono h (fun v s₁ h₁ => ?_) fun _ _ x => x)
  rw [hw, he]
  refine wpC_leaf (wpAny_pure ?_)
  show wpC M A (do assignAll v [assign t env]; pure .next) Q E s₁
  exact wpC_leaf (wpAny_mono h₁ (fun _ _ x => wpC_pure x) fun _ _ x => x)

theorem wpC_isTrue_Not {x : Expr} {p : Pos} {whole : Sem Value} {Q : Bool → Shared → Prop} (h : wpC M A (isTrue x env (eval x env)) (fun b s' => Q (!b) s') E s) : wpC M A (isTrue (.UnaryOp .Not x p) env whole) Q E s := by
  rw [arm_isTrue_UnaryOp]
  exact wpC_bind (wpC_mono h (fun b s' hb => wpC_pure hb) fun _ _ e => e)
theorem wpC_isTrue_Call {f : Expr} {args : List Expr} {kws : List Keyword} {pos : Pos} {Q : Bool → Shared → Prop} (h : wpC M A (eval (.Call f args kws pos) env) (fun v s' => wpAny M A (truthy v) Q E s') E s) :
    wpC M A (isTrue (.Call f args kws pos) env (eval (.Call f args kws pos) env)) Q E s := by
  show wpC M A (eval (.Call f args kws pos) env >>= fun v => standAt pos >>= fun _ => holding [v] (truthy v)) Q E s
  exact wpC_bind (wpC_mono h (fun v s' hv => wpC_leaf (wpAny_standAt (wpC_of (wpAny_holding hv)))) fun _ _ e => e)
theorem wpC_isTrue_Compare {l r : Expr} {op : CmpOp} {pos : Pos} {whole : Sem Value} {Q : Bool → Shared → Prop}
    (h : wpC M A (eval l env) (fun a s₁ => wpAny M A (eval r env) (fun b s₂ => wpAny M A (compareOp op a b) (fun c s₃ => wpAny M A (truthy c) Q E s₃) E s₂) E s₁) E s)
    (hm : markedBehindIn op r (eval r env) = eval r env := by rfl) : wpC M A (isTrue (.Compare l [op] [r] pos) env whole) Q E s := by
  rw [isTrue_Compare1, hm]
  refine wpC_bind (wpC_mono h (fun a s₁ h₁ => wpC_of ?_) fun _ _ e => e)
  refine wpAny_bind (wpAny_holding (wpAny_mono h₁ (fun b s₂ h₂ => ?_) fun _ _ e => e))
  refine wpAny_bind (wpAny_standAt (wpAny_bind (wpAny_operateT (wpAny_mono h₂ (fun c s₃ h₃ => ?_) fun _ _ e => e))))
  exact wpAny_holding h₃
theorem wpC_Compare {l r : Expr} {op : CmpOp} {pos : Pos} {Q : Value → Shared → Prop}
    (h : wpC M A (eval l env) (fun a s₁ => wpAny M A (eval r env) (fun b s₂ => wpAny M A (compareOp op a b) Q E s₂) E s₁) E s)
    (hm : markedEach [op] [r] (evalEach [r] env) = [eval r env] := by rfl) : wpC M A (eval (.Compare l [op] [r] pos) env) Q E s := by
  rw [arm_eval_Compare, hm]
  refine wpC_bind (wpC_mono h (fun a s₁ h₁ => wpC_of ?_) fun _ _ e => e)
  show wpAny M A (do let rv ← holding [a] (eval r env); standAt pos; operate [a, rv] (compareOp op a rv)) Q E s₁
  refine wpAny_bind (wpAny_holding (wpAny_mono h₁ (fun b s₂ h₂ => ?_) fun _ _ e => e))
  exact wpAny_bind (wpAny_standAt (wpAny_operateT h₂))
theorem wpC_And {x y : Expr} {pos : Pos} {Q : Value → Shared → Prop}
    (h : wpC M A (eval x env) (fun v s₁ => wpAny M A (truthy v) (fun t s₂ => if t = true then wpC M A (eval y env) Q E s₂ else Q v s₂) E s₁) E s) : wpC M A (eval (.BoolOp .And [x, y] pos) env) Q E s := by
  rw [arm_eval_BoolOp]
  show wpC M A (do let v ← eval x env; standAt pos; let t ← holding [v] (truthy v); match BoolOp.And, t with | .And, false | .Or, true => pure v | _, _ => boolOp pos .And [eval y env]) Q E s
  refine wpC_bind (wpC_mono h (fun v s₁ h₁ => ?_) fun _ _ e => e)
  refine wpC_leaf (wpAny_standAt (wpC_leaf (wpAny_holding (wpAny_mono h₁ (fun t s₂ h₂ => ?_) fun _ _ e => e))))
  cases t
  · exact wpC_pure h₂
  · exact h₂

theorem wpC_CallName {id : Str} {p pos : Pos} {args : List Expr} {kws : List Keyword} {Q : Value → Shared → Prop}
    (h : wpAny M A (eval (.Name id p) env) (fun f s₁ => wpC M A (callWith pos f [] (backTo pos (starEach args env)) (backToKw pos (keywordEach kws env))) Q E s₁) E s) :
    wpC M A (eval (.Call (.Name id p) args kws pos) env) Q E s := by
  rw [arm_eval_Call_Name']
  exact wpC_leaf h
theorem wpC_CallMeth {o : Expr} {name : Str} {apos pos : Pos} {args : List Expr} {Q : Value → Shared → Prop}
    (h : wpAny M A (eval o env) (fun ov s₁ => wpAny M A (getMethod ov name (do return (← importBound o env).getD true)) (fun fr s₂ => wpC M A (callWith pos fr.1 fr.2 (backTo pos (starEach args env)) []) Q E s₂) E s₁) E s)
    (hb : attributeBase o name env (eval o env) = eval o env := by rfl) (hf : methodCallForm args.length (backTo pos (starEach args env)) [] = true := by rfl) (hp : (apos.endLine == pos.line) = true := by rfl) :
    wpC M A (eval (.Call (.Attribute o name apos) args [] pos) env) Q E s := by
  rw [arm_eval_Call, hb]
  refine wpC_leaf (wpAny_mono h (fun ov s₁ h₁ => ?_) fun _ _ e => e)
  refine wpC_leaf (wpAny_standAt ?_)
  show wpC M A (methodCall o name apos pos env ov (args.length + 0) (backTo pos (starEach args env)) []) Q E s₁
  unfold methodCall
  rw [Nat.add_zero, hf]
  refine wpC_leaf (wpAny_holding (wpAny_mono h₁ (fun fr s₂ h₂ => ?_) fun _ _ e => e))
  have e : methodCallPos true o env apos pos = pure pos := by unfold methodCallPos; rw [hp]; rfl
  exact wpC_leaf (wpAny_of_eq e h₂)

theorem wpC_splicedNil {Q : List Value → Shared → Prop} (h : Q [] s) : wpC M A (spliced []) Q E s := wpC_pure h
theorem wpC_splicedCons {x : Sem Value} {rest : List (Bool × Sem Value)} {Q : List Value → Shared → Prop}
    (h : wpC M A x (fun v s₁ => wpC M A (spliced rest) (fun vs s₂ => Q (v :: vs) s₂) E s₁) E s) : wpC M A (spliced ((false, x) :: rest)) Q E s := by
  rw [spliced]
  refine wpC_bind (wpC_mono h (fun v s₁ h₁ => ?_) fun _ _ x => x)
  simp only [Bool.false_eq_true, if_false]
  exact wpC_leaf (wpAny_pure (wpC_bind (wpC_holding (wpC_mono h₁ (fun vs s₂ h₂ => wpC_pure h₂) fun _ _ x => x))))
theorem wpC_evalArgs {f : Value} {args : List (Bool × Sem Value)} {Q : Args → Shared → Prop} (hns : args.any (·.1) = false)
    (h : wpC M A (spliced args) (fun vs s' => Q ⟨vs, []⟩ s') E s) : wpC M A (evalArgs f true args []) Q E s := by
  unfold evalArgs
  have : ∀ {α β : Type} (a b : α) (g : α → β), True := fun _ _ _ => trivial
  cases args with
  | nil =>
    show wpC M A (spliced [] >>= _) Q E s
    refine wpC_bind (wpC_mono h (fun vs s' h' => ?_) fun _ _ x => x)
    refine wpC_holding ?_
    exact wpC_leaf (wpAny_pure (wpC_leaf (wpAny_pure (wpC_pure h'))))
  | cons a rest =>
    obtain ⟨st, x⟩ := a
    have hst : st = false := by
      rw [List.any_cons] at hns
      cases st with | false => rfl | true => cases hns
    subst hst
    show wpC M A (spliced ((false, x) :: rest) >>= _) Q E s
    refine wpC_bind (wpC_mono h (fun vs s' h' => ?_) fun _ _ x => x)
    refine wpC_holding ?_
    exact wpC_leaf (wpAny_pure (wpC_leaf (wpAny_pure (wpC_pure h'))))
theorem wpC_callWith {P : Heap → Prop} {pos : Pos} {f : Value} {first : List Value} {args : List (Bool × Sem Value)} {Q : Value → Shared → Prop} (hns : args.any (·.1) = false)
    (hk : ∀ h, P h → ∃ k, (k = Keeper.frame ∨ k = Keeper.machine ∨ k = Keeper.boundFrame) ∧ Looks M h (keeperOf f) k)
    (h : wpC M A (spliced args) (fun vs s₁ => P s₁.heap ∧ wpC M A (call f (first ++ vs)) Q E s₁) E s) : wpC M A (callWith pos f first args []) Q E s := by
  unfold callWith
  refine wpC_bind (wpC_holding (wpC_evalArgs hns (wpC_mono h (fun vs s₁ h₁ => wpC_leaf (wpAny_standAt ?_)) fun _ _ x => x)))
  obtain ⟨k, hk', L⟩ := hk _ h₁.1
  simp only [hns, List.any_nil, Bool.or_false]
  refine wpC_leaf (L.here ?_)
  have tail : ∀ {t : Sem Value}, wpC M A t Q E s₁ → wpC M A (t >>= fun r => holding [r] point >>= fun _ => pure r) Q E s₁ :=
    fun ht => wpC_bind (wpC_mono ht (fun r s₂ hr => wpC_leaf (wpAny_holding (wpAny_point (wpC_pure hr)))) fun _ _ x => x)
  have marked (mk : Value) : wpC M A (callMarked mk f (first ++ vs) []) Q E s₁ := by unfold callMarked; exact wpC_keep h₁.2
  rcases hk' with rfl | rfl | rfl <;> dsimp only <;> first | exact tail h₁.2 | (split <;> first | exact tail h₁.2 | exact tail (marked _))
theorem wpC_List {elts : List Expr} {pos : Pos} {Q : Value → Shared → Prop} (h : wpC M A (spliced (backTo pos (starEach elts env))) (fun vs s₁ => wpAny M A (newList vs) Q E s₁) E s) : wpC M A (eval (.List elts pos) env) Q E s := by
  rw [arm_eval_List]
  exact wpC_leaf (wpAny_standAt (wpC_bind (wpC_mono h (fun vs s₁ h₁ => wpC_of h₁) fun _ _ e => e)))
theorem assign_Attr {o : Expr} {attr : Str} {pos : Pos} {v : Value} {Q : Unit → Shared → Prop} (h : wpAny M A (eval o env) (fun ov s₁ => wpAny M A (setAttr ov attr v) Q E s₁) E s) : wpAny M A (assign (.Attribute o attr pos) env v) Q E s := by
  rw [arm_assign_Attribute]
  refine wpAny_bind (wpAny_holding (wpAny_mono h (fun ov s₁ h₁ => ?_) fun _ _ e => e))
  refine wpAny_bind (wpAny_standAt (wpAny_bind (wpAny_holding (wpAny_mono h₁ (fun _ s₂ h₂ => ?_) fun _ _ e => e))))
  exact wpAny_release h₂
theorem assign_Name {x : Str} {px : Pos} {v : Value} {Q : Unit → Shared → Prop} (h : wpAny M A (bindName env x v) Q E s) : wpAny M A (assign (.Name x px) env v) Q E s := by
  rw [arm_assign_Name]
  exact wpAny_bind (wpAny_standAt h)
theorem keeps_machine {id : String} {P : Heap → Prop} (h : Heap) (_ : P h) : ∃ k, (k = Keeper.frame ∨ k = Keeper.machine ∨ k = Keeper.boundFrame) ∧ Looks M h (keeperOf (.builtin id)) k := ⟨.machine, .inr (.inl rfl), .now⟩
theorem keeps_type {id : String} {P : Heap → Prop} (h : Heap) (_ : P h) : ∃ k, (k = Keeper.frame ∨ k = Keeper.machine ∨ k = Keeper.boundFrame) ∧ Looks M h (keeperOf (.type id)) k := ⟨.machine, .inr (.inl rfl), .now⟩
end
end
section
/-- a goal at which the walk is to stop -/
def Parked (P : Prop) : Prop := P
theorem Parked.go {P : Prop} (h : Parked P) : P := h
def ParkFor : Prop := True
def ParkWhile : Prop := True
def ParkTry : Prop := True
theorem exec_forA {prog : Program} {w : World} {A : Around} {E : Value → Shared → Prop} {env : Env} {x : Str} {px : Pos} {body : List Stmt} {Q : Flow → Shared → Prop} {s : Shared} {iter : Expr} {pos : Pos}
    (h : wpAny (model prog w) A (eval iter env) (fun xv s₁ => wpAny (model prog w) A (pyIter xv) (fun it s₂ => wpS allK (model prog w) A (runOwn (.forLoop (.Name x px) it body [] env) env) Q E s₂) E s₁) E s)
    (hs : ∀ v, foldedSetIterable iter env v = pure v := by intro _; rfl) : wpAny (model prog w) A (exec (.For (.Name x px) iter body [] pos) env) Q E s := wpS_any (exec_forS h hs)
section
variable {K : Code → Bool} {prog : Program} {w : World} {A : Around} {E : Value → Shared → Prop} {env : Env} {h₀ : Heap} {x : Str} {px : Pos} {body : List Stmt} {n : Nat} {Q : Flow → Shared → Prop} {s : Shared} {m : Str → Option Value} {D : Addr} {oD : Obj} {news : List (Addr × Obj)}
/-- for x in bytes -/
theorem forBytesN {bs : Array UInt8} {tb : Tok} (J : (Str → Option Value) → List (Addr × Obj) → Nat → (Str → Option Value) → List (Addr × Obj) → Prop) (hh : A.handled = none)
    (hK : ∀ I, K (.forLoop (.Name x px) (.ref I) body [] env) = true) (hKb : K (.block [] env) = true) (hk : env.scope.kind = .function) (hx : env.kindOf x = some .local)
    (F : Fr h₀ env.locals s.heap m) (N : News h₀ env.locals s.heap news) (h0 : J m news 0 m news)
    (sep : ∀ I i m' news', (∀ p ∈ news, p.1 < I) → i ≤ bs.size → J m news i m' news' → ∀ p ∈ news', p.1 ≠ I)
    (turn : ∀ I, (∀ p ∈ news, p.1 < I) → ∀ i (c : UInt8) o m' news' h tk tk', bs[i]? = some c → J m news i m' news' → Fr h₀ env.locals h (fun y => if y = x then some (.int (c.toNat : Int) tk) else m' y) → News h₀ env.locals h ((I, o) :: news') →
      wpS K (model prog w) A (execs body env) (TurnEnd h₀ env.locals I o (J m news (i + 1)) s Q) (fun _ _ => False) { s with heap := h, toks := tk' })
    (done : ∀ m' news' h tk, J m news bs.size m' news' → Fr h₀ env.locals h m' → News h₀ env.locals h news' → Q .next { s with heap := h, toks := tk }) :
    wpAny (model prog w) A (pyIter (.bytes bs tb)) (fun it s₂ => wpS K (model prog w) A (runOwn (.forLoop (.Name x px) it body [] env) env) Q E s₂) E s := by
  refine KBw.pyIter_bytes ?_
  have hI : ∀ p ∈ news, p.1 < s.heap.objs.size := fun p hp => Heap.lt_size (N p hp).1
  refine forRule (n := bs.size) (It := fun i o => o.cls = .type "bytes_iterator" ∧ o.data = .fields #[.bytes bs tb, .int i 0])
    (Val := fun i v => ∃ c tk, bs[i]? = some c ∧ v = .int (c.toNat : Int) tk) (J m news) (fun _ => True) (hK _) hKb hk hx ?_ ?_ (fun _ _ _ _ _ _ _ _ => trivial) (fun i m' news' hi hj => sep _ i m' news' hI hi hj) ?_ done h0 ⟨rfl, rfl⟩ (F.push _) (N.push F _)
  · intro i o s Q E hi ho hO _ hQ
    refine KBw.next_item (c := bs[i]) ⟨o, ho, hO.1, hO.2⟩ (by simp [hi]) fun h' hit' hs' => ?_
    obtain ⟨o', ho', hc', hd'⟩ := hit'
    exact hQ h' o' _ _ ho' ⟨hc', hd'⟩ ⟨_, _, by simp [hi], rfl⟩ hs'
  · intro o s Q E ho hO _ hQ
    exact KBw.next_end hh ⟨o, ho, hO.1, hO.2⟩ (by simp) fun h' he' => hQ h' s.toks fun b o hb e => he' b o hb e
  · rintro i v o m' news' h tk hi ⟨c, tk1, hc, rfl⟩ hj F' N'
    exact turn _ hI i c o m' news' h tk1 tk hc hj F' N'
/-- the word may name the ledger ahead of the loop -/
theorem forRangeN {r : Addr} {a b c : Int} {t u v : Tok} (J : (Str → Option Value) → List (Addr × Obj) → Nat → (Str → Option Value) → List (Addr × Obj) → Prop) (hh : A.handled = none)
    (hK : ∀ I, K (.forLoop (.Name x px) (.ref I) body [] env) = true) (hKb : K (.block [] env) = true) (hk : env.scope.kind = .function) (hx : env.kindOf x = some .local)
    (hr : IsRange s.heap r a b c t u v) (F : Fr h₀ env.locals s.heap m) (N : News h₀ env.locals s.heap news) (hsm : Builtin.Range.small a b c = true) (hn : Builtin.Range.rangeSize a b c = (n : Int)) (h0 : J m news 0 m news)
    (sep : ∀ I i m' news', (∀ p ∈ news, p.1 < I) → i ≤ n → J m news i m' news' → ∀ p ∈ news', p.1 ≠ I)
    (turn : ∀ I, (∀ p ∈ news, p.1 < I) → ∀ i tk o m' news' h tk', i < n → J m news i m' news' → Fr h₀ env.locals h (fun y => if y = x then some (.int (a + (i : Int) * c) tk) else m' y) → News h₀ env.locals h ((I, o) :: news') →
      wpS K (model prog w) A (execs body env) (TurnEnd h₀ env.locals I o (J m news (i + 1)) s Q) (fun _ _ => False) { s with heap := h, toks := tk' })
    (done : ∀ m' news' h tk, J m news n m' news' → Fr h₀ env.locals h m' → News h₀ env.locals h news' → Q .next { s with heap := h, toks := tk }) :
    wpAny (model prog w) A (pyIter (.ref r)) (fun it s₂ => wpS K (model prog w) A (runOwn (.forLoop (.Name x px) it body [] env) env) Q E s₂) E s :=
  forRange (J m news) hh hK hKb hk hx hr hsm hn F N h0 sep turn done
theorem forListN {l : Addr} {items : Array Value} (J : (Str → Option Value) → List (Addr × Obj) → Nat → (Str → Option Value) → List (Addr × Obj) → Prop) (hh : A.handled = none)
    (hK : ∀ I, K (.forLoop (.Name x px) (.ref I) body [] env) = true) (hKb : K (.block [] env) = true) (hk : env.scope.kind = .function) (hx : env.kindOf x = some .local)
    (hl : s.heap.IsList l items) (F : Fr h₀ env.locals s.heap m) (N : News h₀ env.locals s.heap news) (h0 : J m news 0 m news)
    (side : ∀ i m' news' h, i ≤ items.size → J m news i m' news' → Fr h₀ env.locals h m' → News h₀ env.locals h news' → h.IsList l items)
    (sep : ∀ I i m' news', (∀ p ∈ news, p.1 < I) → i ≤ items.size → J m news i m' news' → ∀ p ∈ news', p.1 ≠ I)
    (turn : ∀ I, (∀ p ∈ news, p.1 < I) → ∀ i v o m' news' h tk', items[i]? = some v → J m news i m' news' → Fr h₀ env.locals h (fun y => if y = x then some v else m' y) → News h₀ env.locals h ((I, o) :: news') →
      wpS K (model prog w) A (execs body env) (TurnEnd h₀ env.locals I o (J m news (i + 1)) s Q) (fun _ _ => False) { s with heap := h, toks := tk' })
    (done : ∀ m' news' h tk, J m news items.size m' news' → Fr h₀ env.locals h m' → News h₀ env.locals h news' → Q .next { s with heap := h, toks := tk }) :
    wpAny (model prog w) A (pyIter (.ref l)) (fun it s₂ => wpS K (model prog w) A (runOwn (.forLoop (.Name x px) it body [] env) env) Q E s₂) E s :=
  forList (J m news) hh hK hKb hk hx hl F N h0 side sep turn done
/-- the word may name the ledger's first place, too -/
theorem forRangeD {r : Addr} {a b c : Int} {t u v : Tok} (J : (Str → Option Value) → Addr → Nat → (Str → Option Value) → List (Addr × Obj) → Prop) (hh : A.handled = none)
    (hK : ∀ I, K (.forLoop (.Name x px) (.ref I) body [] env) = true) (hKb : K (.block [] env) = true) (hk : env.scope.kind = .function) (hx : env.kindOf x = some .local)
    (hr : IsRange s.heap r a b c t u v) (F : Fr h₀ env.locals s.heap m) (N : News h₀ env.locals s.heap ((D, oD) :: news)) (hsm : Builtin.Range.small a b c = true) (hn : Builtin.Range.rangeSize a b c = (n : Int)) (h0 : J m D 0 m ((D, oD) :: news))
    (sep : ∀ I i m' news', (∀ p ∈ (D, oD) :: news, p.1 < I) → i ≤ n → J m D i m' news' → ∀ p ∈ news', p.1 ≠ I)
    (turn : ∀ I, (∀ p ∈ (D, oD) :: news, p.1 < I) → ∀ i tk o m' news' h tk', i < n → J m D i m' news' → Fr h₀ env.locals h (fun y => if y = x then some (.int (a + (i : Int) * c) tk) else m' y) → News h₀ env.locals h ((I, o) :: news') →
      wpS K (model prog w) A (execs body env) (TurnEnd h₀ env.locals I o (J m D (i + 1)) s Q) (fun _ _ => False) { s with heap := h, toks := tk' })
    (done : ∀ m' news' h tk, J m D n m' news' → Fr h₀ env.locals h m' → News h₀ env.locals h news' → Q .next { s with heap := h, toks := tk }) :
    wpAny (model prog w) A (pyIter (.ref r)) (fun it s₂ => wpS K (model prog w) A (runOwn (.forLoop (.Name x px) it body [] env) env) Q E s₂) E s :=
  forRange (J m D) hh hK hKb hk hx hr hsm hn F N h0 sep turn done
end
/-- a while by its word; the word may name the frame's map ahead of it -/
theorem whileM {prog : Program} {w : World} {A : Around} {E : Value → Shared → Prop} {Q : Flow → Shared → Prop} {s : Shared} {env : Env} {h₀ : Heap} {L : Addr} {test : Expr} {body : List Stmt} {pos : Pos} {m : Str → Option Value} {news : List (Addr × Obj)}
    (J : (Str → Option Value) → Nat → (Str → Option Value) → List (Addr × Obj) → Prop) {n₀ : Nat}
    (F : Fr h₀ L s.heap m) (N : News h₀ L s.heap news) (hJ : J m n₀ m news)
    (turn : ∀ n m₁ news₁ h₁ tk₁, Fr h₀ L h₁ m₁ → News h₀ L h₁ news₁ → J m n m₁ news₁ →
      wpAny (model prog w) A (isTrue test env (eval test env)) (fun b s₂ =>
        if b = true then wpAny (model prog w) A (execs body env) (WhileStep h₀ L s (J m) n) E s₂ else Q .next s₂) E { s with heap := h₁, toks := tk₁ })
    (hE : PassesOwn (model prog w) A env E := by passes_own) :
    wpAny (model prog w) A (exec (.While test body [] pos) env) Q E s := While_inv (J m) F N hJ turn hE
theorem TurnEnd.same {h₀ : Heap} {L I : Addr} {it : Obj} {J : (Str → Option Value) → List (Addr × Obj) → Prop} {s₀ : Shared} {Q : Flow → Shared → Prop} {h' : Heap} {tk' : Nat} {m' : Str → Option Value} {news' : List (Addr × Obj)}
    (F : Fr h₀ L h' m') (N : News h₀ L h' ((I, it) :: news')) (j : J m' news') : TurnEnd h₀ L I it J s₀ Q .next { s₀ with heap := h', toks := tk' } := ⟨h', tk', m', news', rfl, F, N, j⟩
theorem fr_ext {h₀ h h' : Heap} {L : Addr} {m : Str → Option Value} (F : Fr h₀ L h m) (k : ∀ b o, h.get? b = some o → h'.get? b = some o) : Fr h₀ L h' m := ⟨F.ns.at' fun o e => k _ _ e, fun b o e => k b o (F.keep b o e), F.above⟩
theorem news_ext {h₀ h h' : Heap} {L : Addr} {news : List (Addr × Obj)} (N : News h₀ L h news) (k : ∀ b o, h.get? b = some o → h'.get? b = some o) : News h₀ L h' news := fun p hp => ⟨k _ _ (N p hp).1, (N p hp).2⟩
theorem getD_out {l : List Int} {i : Nat} (h : l.length ≤ i) : l.getD i 0 = 0 := by rw [List.getD_eq_getElem?_getD, List.getElem?_eq_none h]; rfl
theorem frame1 {x : Str} {m' m₀ : Str → Option Value} {v : Option Value} (hx : m' x = v) (h : ∀ n, n ≠ x → m' n = m₀ n) : m' = fun n => if n = x then v else m₀ n := by
  funext n
  by_cases h1 : n = x
  · subst h1; rw [if_pos rfl]; exact hx
  · rw [if_neg h1]; exact h n h1
theorem frame2 {x y : Str} {m' m₀ : Str → Option Value} {v : Option Value} (hy : m' y = v) (h : ∀ n, n ≠ x → n ≠ y → m' n = m₀ n) : m' = fun n => if n = x then m' x else if n = y then v else m₀ n := by
  funext n
  by_cases h1 : n = x
  · subst h1; rw [if_pos rfl]
  rw [if_neg h1]
  by_cases h2 : n = y
  · subst h2; rw [if_pos rfl]; exact hy
  rw [if_neg h2]
  exact h n h1 h2
theorem frame7 {a b c d e f g : Str} {m' m₀ : Str → Option Value} {vb vc vd ve vf vg : Option Value} (hb : m' b = vb) (hc : m' c = vc) (hd : m' d = vd) (he : m' e = ve) (hf : m' f = vf) (hg : m' g = vg)
    (h : ∀ n, n ≠ a → n ≠ b → n ≠ c → n ≠ d → n ≠ e → n ≠ f → n ≠ g → m' n = m₀ n) :
    m' = fun n => if n = a then m' a else if n = b then vb else if n = c then vc else if n = d then vd else if n = e then ve else if n = f then vf else if n = g then vg else m₀ n := by
  funext n
  by_cases h1 : n = a
  · subst h1; rw [if_pos rfl]
  rw [if_neg h1]
  by_cases h2 : n = b
  · subst h2; rw [if_pos rfl]; exact hb
  rw [if_neg h2]
  by_cases h3 : n = c
  · subst h3; rw [if_pos rfl]; exact hc
  rw [if_neg h3]
  by_cases h4 : n = d
  · subst h4; rw [if_pos rfl]; exact hd
  rw [if_neg h4]
  by_cases h5 : n = e
  · subst h5; rw [if_pos rfl]; exact he
  rw [if_neg h5]
  by_cases h6 : n = f
  · subst h6; rw [if_pos rfl]; exact hf
  rw [if_neg h6]
  by_cases h7 : n = g
  · subst h7; rw [if_pos rfl]; exact hg
  rw [if_neg h7]
  exact h n h1 h2 h3 h4 h5 h6 h7
theorem map2 {x y : Str} {m' m₀ : Str → Option Value} (h : ∀ n, n ≠ x → n ≠ y → m' n = m₀ n) : m' = fun n => if n = x then m' x else if n = y then m' y else m₀ n := by
  funext n
  by_cases h1 : n = x
  · subst h1; rw [if_pos rfl]
  rw [if_neg h1]
  by_cases h2 : n = y
  · subst h2; rw [if_pos rfl]
  rw [if_neg h2]
  exact h n h1 h2
theorem map3 {x y z : Str} {m' m₀ : Str → Option Value} (h : ∀ n, n ≠ x → n ≠ y → n ≠ z → m' n = m₀ n) : m' = fun n => if n = x then m' x else if n = y then m' y else if n = z then m' z else m₀ n := by
  funext n
  by_cases h1 : n = x
  · subst h1; rw [if_pos rfl]
  rw [if_neg h1]
  by_cases h2 : n = y
  · subst h2; rw [if_pos rfl]
  rw [if_neg h2]
  by_cases h3 : n = z
  · subst h3; rw [if_pos rfl]
  rw [if_neg h3]
  exact h n h1 h2 h3
/-- what a called def gives back, over tidy contexts -/
def SpecC (w : World) (mean : ExcName → Option Value) (mg mb : Str → Option Value) (f : Addr) (vs : List Value) (news : List (Addr × Obj)) (D U : Nat)
    (Ret : Value → List (Addr × Obj) → Prop) : Prop :=
  ∀ (dp un : Nat) (cn : Str) (cs : Scope) (a : Addr) (ccd : Value) (cl : List (Str × Addr)) (outer : List Env) (A₀ : Around) (base h₀ : Heap) (L : Addr) (m : Str → Option Value) (s : Shared)
    (Q E : Value → Shared → Prop),
    Below A₀ base outer h₀ → Fr h₀ L s.heap m → (FC.hd.heap_39 w.params).In h₀ → News h₀ L s.heap news →
    Top FC.hd.view_39 (looseW FC.hd.view_39 [Str.ofString "BTClibValueError", Str.ofString "BTClibTypeError", Str.ofString "bytes_from_octets"]) mean mg mb h₀ →
    cs.kind = .function → dp + D < recursionLimit → un + U < cLine →
    (∀ r news' h' tk', Fr h₀ L h' m → News h₀ L h' news' → Ret r news' → Q r { s with heap := h', toks := tk' }) →
    wpC (model PySem.Challenge.rw_fc5004_01.row.prog w) (ktrTop dp un (some []) cn cs L a ccd cl outer) (call (.ref f) vs) Q E s

theorem small_down {c : Int} (h0 : 0 ≤ c) (h1 : c < 2 ^ 40) : Builtin.Range.small (c - 1) (-1) (-1) = true := by
  have e : Builtin.Range.rangeSize (c - 1) (-1) (-1) = c := by
    unfold Builtin.Range.rangeSize
    rw [if_neg (by decide)]
    by_cases h : c - 1 > -1
    · rw [if_pos h]; simp
    · rw [if_neg h]; omega
  unfold Builtin.Range.small Builtin.Range.rangeFitsLong
  rw [e]
  simp only [Bool.and_eq_true, Bool.or_eq_true, decide_eq_true_eq, beq_iff_eq]
  refine ⟨⟨⟨⟨?_, ?_⟩, ?_⟩, ?_⟩, .inr ?_⟩ <;> first | omega | decide | (constructor <;> omega)
theorem size_down {c : Int} (h0 : 0 ≤ c) : Builtin.Range.rangeSize (c - 1) (-1) (-1) = (c.toNat : Int) := by
  unfold Builtin.Range.rangeSize
  rw [if_neg (by decide)]
  by_cases h : c - 1 > -1
  · rw [if_pos h]; simp; omega
  · rw [if_neg h]; omega
theorem small_up {c : Int} (h0 : 0 ≤ c) (h1 : c < 2 ^ 40) : Builtin.Range.small 0 c 1 = true := by
  have e : Builtin.Range.rangeSize 0 c 1 = c := by
    unfold Builtin.Range.rangeSize
    rw [if_pos (by decide)]
    by_cases h : 0 < c
    · rw [if_pos h]; simp
    · rw [if_neg h]; omega
  unfold Builtin.Range.small Builtin.Range.rangeFitsLong
  rw [e]
  rw [if_pos (show (1 : Int) > 0 by decide)]
  simp only [Bool.and_eq_true, Bool.or_eq_true, decide_eq_true_eq, beq_iff_eq]
  refine ⟨⟨⟨⟨?_, ?_⟩, ?_⟩, ?_⟩, .inr ?_⟩ <;> first | omega | decide | (constructor <;> omega)
theorem size_up {c : Int} (h0 : 0 ≤ c) : Builtin.Range.rangeSize 0 c 1 = (c.toNat : Int) := by
  unfold Builtin.Range.rangeSize
  rw [if_pos (by decide)]
  by_cases h : 0 < c
  · rw [if_pos h]; simp; omega
  · rw [if_neg h]; omega
theorem reset_name {x : Str} {v u : Option Value} {m₀ : Str → Option Value} : (fun y => if y = x then v else (if y = x then u else m₀ y)) = fun y => if y = x then v else m₀ y := by
  funext y; split <;> simp_all
theorem same_name {x : Str} {m₀ : Str → Option Value} : m₀ = fun y => if y = x then m₀ x else m₀ y := by
  funext y; split <;> simp_all
theorem off_of_lt {d : Addr} {news : List (Addr × Obj)} (h : ∀ p ∈ news, p.1 < d) : ∀ p ∈ news, p.1 ≠ d := fun p hp => Nat.ne_of_lt (h p hp)
theorem off1_all {D : Addr} {news : List (Addr × Obj)} (h : LCg.Off1 D news) : ∀ p ∈ news, p.1 ≠ D := by
  induction news with
  | nil => exact fun p hp => absurd hp (by simp)
  | cons q r ih =>
    obtain ⟨h1, h2⟩ := h
    intro p hp
    rcases List.mem_cons.mp hp with rfl | hp
    · exact h1
    · exact ih h2 p hp
/-- a writer's dict -/
abbrev wDict (h1 h2 h3 : Int) (k1 k2 k3 : Tok) (b : Addr) (bv : Int) (tb : Tok) (fv : Int) (tf : Tok) : Obj :=
  dictOf [⟨h1, .str (Str.ofString "octets") k1, .ref b⟩, ⟨h2, .str (Str.ofString "_buffer") k2, .int bv tb⟩, ⟨h3, .str (Str.ofString "_filled") k3, .int fv tf⟩] 3
theorem Spec.mono {w : World} {mean : ExcName → Option Value} {mg mb : Str → Option Value} {f : Addr} {vs : List Value} {news : List (Addr × Obj)} {D U : Nat} {Ret Ret' : Value → List (Addr × Obj) → Prop} (S : Spec w mean mg mb f vs news D U Ret)
    (h : ∀ r n, Ret r n → Ret' r n) : Spec w mean mg mb f vs news D U Ret' := by
  unfold Spec at S ⊢
  intro dp un gd cn cs a ccd cl outer A₀ base h₀ L m s Q E B F X N T hk hd hu hret
  exact S _ _ _ _ _ _ _ _ _ _ _ _ _ _ _ _ _ B F X N T hk hd hu fun r n h' t F N R => hret r n h' t F N (h r n R)
theorem spec_use {w : World} {mean : ExcName → Option Value} {mg mb : Str → Option Value} {f : Addr} {vs : List Value} {news : List (Addr × Obj)} {D U : Nat} {Ret : Value → List (Addr × Obj) → Prop} (S : Spec w mean mg mb f vs news D U Ret) {dp un : Nat} {gd : Option (List Code)} {cn : Str} {cs : Scope} {a : Addr} {ccd : Value} {cl : List (Str × Addr)} {outer : List Env} {A₀ : Around} {base h₀ : Heap} {L : Addr} {m : Str → Option Value} {s : Shared}
    {Q E : Value → Shared → Prop} (B : Below A₀ base outer h₀) (F : Fr h₀ L s.heap m) (X : (FC.hd.heap_39 w.params).In h₀) (N : News h₀ L s.heap news)
    (T : Top FC.hd.view_39 (looseW FC.hd.view_39 [Str.ofString "BTClibValueError", Str.ofString "BTClibTypeError", Str.ofString "bytes_from_octets"]) mean mg mb h₀)
    (hk : cs.kind = .function) (hd : dp + D < recursionLimit) (hu : un + U < cLine)
    (ret : ∀ r news' h' tk', Fr h₀ L h' m → News h₀ L h' news' → Ret r news' → Q r { s with heap := h', toks := tk' }) :
    wpAny (model PySem.Challenge.rw_fc5004_01.row.prog w) (ktrTop dp un gd cn cs L a ccd cl outer) (call (.ref f) vs) Q E s := S _ _ _ _ _ _ _ _ _ _ _ _ _ _ _ _ _ B F X N T hk hd hu ret
theorem specC_use {w : World} {mean : ExcName → Option Value} {mg mb : Str → Option Value} {f : Addr} {vs : List Value} {news : List (Addr × Obj)} {D U : Nat} {Ret : Value → List (Addr × Obj) → Prop} (S : SpecC w mean mg mb f vs news D U Ret) {dp un : Nat} {cn : Str} {cs : Scope} {a : Addr} {ccd : Value} {cl : List (Str × Addr)} {outer : List Env} {A₀ : Around} {base h₀ : Heap} {L : Addr} {m : Str → Option Value} {s : Shared}
    {Q E : Value → Shared → Prop} (B : Below A₀ base outer h₀) (F : Fr h₀ L s.heap m) (X : (FC.hd.heap_39 w.params).In h₀) (N : News h₀ L s.heap news)
    (T : Top FC.hd.view_39 (looseW FC.hd.view_39 [Str.ofString "BTClibValueError", Str.ofString "BTClibTypeError", Str.ofString "bytes_from_octets"]) mean mg mb h₀)
    (hk : cs.kind = .function) (hd : dp + D < recursionLimit) (hu : un + U < cLine)
    (ret : ∀ r news' h' tk', Fr h₀ L h' m → News h₀ L h' news' → Ret r news' → Q r { s with heap := h', toks := tk' }) :
    wpC (model PySem.Challenge.rw_fc5004_01.row.prog w) (ktrTop dp un (some []) cn cs L a ccd cl outer) (call (.ref f) vs) Q E s := S _ _ _ _ _ _ _ _ _ _ _ _ _ _ _ _ B F X N T hk hd hu ret
end
section
open PySem PyProof.Rows
/-- a row of bits as a number, the highest first -/
def num (l : List Int) : Int := l.foldl (fun a b => 2 * a + b) 0
def IsBits (l : List Int) : Prop := ∀ b ∈ l, b = 0 ∨ b = 1
/-- the k-th octet of a row of bits, noughts behind its end -/
def octAt (bits : List Int) (k : Nat) : Int := num ((List.range 8).map fun j => bits.getD (8 * k + j) 0)
def octs (bits : List Int) : List Int := (List.range ((bits.length + 7) / 8)).map (octAt bits)
/-- what a writer holds when so many bits were written -/
def WRep (bits : List Int) (arr : Array UInt8) (bv fv : Int) : Prop :=
  IsBits bits ∧ 0 ≤ fv ∧ fv < 8 ∧ (bits.length : Int) = 8 * (arr.size : Int) + fv ∧ arr = byteArr ((List.range arr.size).map (octAt bits)) ∧ bv = num (bits.drop (8 * arr.size))

/-- a number's lowest bits, the highest of them first -/
def bitAt (n c : Int) (i : Nat) : Int := (n.fdiv (2 ^ (c - 1 - (i : Int)).toNat)).fmod 2
def bitsN (n c : Int) (k : Nat) : List Int := (List.range k).map (bitAt n c)
def bitsOf (n c : Int) : List Int := bitsN n c c.toNat
theorem bitsN_succ (n c : Int) (k : Nat) : bitsN n c (k + 1) = bitsN n c k ++ [bitAt n c k] := by
  unfold bitsN
  rw [List.range_succ, List.map_append]; rfl
theorem bitAt_bit (n c : Int) (i : Nat) : bitAt n c i = 0 ∨ bitAt n c i = 1 := by
  unfold bitAt
  rw [Int.fmod_eq_emod_of_nonneg _ (by decide)]
  omega
theorem bitsN_length (n c : Int) (k : Nat) : (bitsN n c k).length = k := by simp [bitsN]
theorem bitsOf_length (n c : Int) : (bitsOf n c).length = c.toNat := bitsN_length ..
theorem bitsOf_bits (n c : Int) : IsBits (bitsOf n c) := fun b hb => by
  unfold bitsOf bitsN at hb
  obtain ⟨i, _, rfl⟩ := List.mem_map.mp hb
  exact bitAt_bit n c i
theorem foldl_num (l : List Int) (a : Int) : l.foldl (fun a b => 2 * a + b) a = a * 2 ^ l.length + num l := by
  unfold num
  induction l generalizing a with
  | nil => simp
  | cons b r ih =>
    rw [List.foldl_cons, List.foldl_cons, ih, ih (2 * 0 + b), List.length_cons, Int.pow_succ]
    rw [Int.add_mul, Int.add_mul, Int.mul_zero, Int.zero_mul, Int.zero_add]
    have e : 2 * a * 2 ^ r.length = a * (2 ^ r.length * 2) := by rw [Int.mul_comm 2 a, Int.mul_assoc, Int.mul_comm 2]
    rw [e]; omega
theorem num_append (l r : List Int) : num (l ++ r) = num l * 2 ^ r.length + num r := by
  show (l ++ r).foldl _ 0 = _
  rw [List.foldl_append]
  exact foldl_num r _
theorem num_nil : num [] = 0 := rfl
theorem num_snoc (l : List Int) (b : Int) : num (l ++ [b]) = 2 * num l + b := by
  show (l ++ [b]).foldl _ 0 = _
  rw [List.foldl_append]; rfl
theorem IsBits.append {l r : List Int} (hl : IsBits l) (hr : IsBits r) : IsBits (l ++ r) := fun b hb => (List.mem_append.mp hb).elim (hl b) (hr b)
theorem IsBits.drop {l : List Int} (h : IsBits l) (n : Nat) : IsBits (l.drop n) := fun b hb => h b (List.mem_of_mem_drop hb)
theorem IsBits.take {l : List Int} (h : IsBits l) (n : Nat) : IsBits (l.take n) := fun b hb => h b (List.mem_of_mem_take hb)
theorem IsBits.single {b : Int} (h : b = 0 ∨ b = 1) : IsBits [b] := fun c hc => by rw [List.mem_singleton.mp hc]; exact h
theorem num_cons (b : Int) (r : List Int) : num (b :: r) = b * 2 ^ r.length + num r := by
  show (b :: r).foldl _ 0 = _
  rw [List.foldl_cons, foldl_num]
  simp
theorem num_bound {l : List Int} (h : IsBits l) : 0 ≤ num l ∧ num l < 2 ^ l.length := by
  induction l with
  | nil => simp [num]
  | cons b r ih =>
    have h1 := ih fun c hc => h c (List.mem_cons_of_mem _ hc)
    have h2 := h b (by simp)
    rw [num_cons, List.length_cons, Int.pow_succ]
    rcases h2 with rfl | rfl <;> omega

theorem octAt_append {bits more : List Int} {k : Nat} (h : 8 * k + 8 ≤ bits.length) : octAt (bits ++ more) k = octAt bits k := by
  unfold octAt
  congr 1
  apply List.map_congr_left
  intro j hj
  have hj' := List.mem_range.mp hj
  rw [List.getD_eq_getElem?_getD, List.getD_eq_getElem?_getD, List.getElem?_append_left (by omega)]
theorem range8_getD {bits : List Int} {k n : Nat} (h : bits.length = 8 * k + n) (hn : n ≤ 8) :
    ((List.range 8).map fun j => bits.getD (8 * k + j) 0) = bits.drop (8 * k) ++ List.replicate (8 - n) 0 := by
  apply List.ext_getElem
  · simp; omega
  · intro i h1 h2
    simp only [List.length_map, List.length_range] at h1
    simp only [List.getElem_map, List.getElem_range, List.getD_eq_getElem?_getD]
    by_cases hi : i < n
    · rw [List.getElem_append_left (by simp; omega), List.getElem_drop, List.getElem?_eq_getElem (by omega)]
      rfl
    · rw [List.getElem_append_right (by simp; omega), List.getElem?_eq_none (by omega)]
      simp
theorem num_zeros (n : Nat) : num (List.replicate n 0) = 0 := by
  induction n with
  | zero => rfl
  | succ n ih => rw [List.replicate_succ', num_snoc, ih]; rfl
theorem octAt_tail {bits : List Int} {k n : Nat} (h : bits.length = 8 * k + n) (hn : n ≤ 8) : octAt bits k = num (bits.drop (8 * k)) * 2 ^ (8 - n) := by
  unfold octAt
  rw [range8_getD h hn, num_append, num_zeros, List.length_replicate, Int.add_zero]
theorem byteArr_range {k : Nat} {bits more : List Int} (h : 8 * k ≤ bits.length) : byteArr ((List.range k).map (octAt (bits ++ more))) = byteArr ((List.range k).map (octAt bits)) := by
  congr 1
  apply List.map_congr_left
  intro j hj
  have hj' := List.mem_range.mp hj
  exact octAt_append (by omega)
theorem byteArr_snoc (ns : List Int) (n : Int) : byteArr (ns ++ [n]) = (byteArr ns).push n.toNat.toUInt8 := by
  unfold byteArr
  simp

theorem WRep.nil : WRep [] #[] 0 0 := ⟨fun _ h => (nomatch h), by decide, by decide, by simp, by simp [byteArr], rfl⟩
theorem WRep.bound {bits : List Int} {arr : Array UInt8} {bv fv : Int} (h : WRep bits arr bv fv) : 0 ≤ bv ∧ bv < 2 ^ fv.toNat ∧ 0 ≤ fv ∧ fv < 8 := by
  obtain ⟨h1, h2, h3, h4, h5, h6⟩ := h
  have hb := num_bound (h1.drop (8 * arr.size))
  have hl : (bits.drop (8 * arr.size)).length = fv.toNat := by rw [List.length_drop]; omega
  rw [hl] at hb
  exact ⟨by rw [h6]; exact hb.1, by rw [h6]; exact hb.2, h2, h3⟩
theorem WRep.bound128 {bits : List Int} {arr : Array UInt8} {bv fv : Int} (h : WRep bits arr bv fv) : 0 ≤ bv ∧ bv < 128 ∧ 0 ≤ fv ∧ fv < 8 := by
  obtain ⟨h1, h2, h3, h4⟩ := h.bound
  refine ⟨h1, ?_, h3, h4⟩
  have : (2 : Int) ^ fv.toNat ≤ 2 ^ 7 := by
    have := Nat.pow_le_pow_right (n := 2) (by decide) (show fv.toNat ≤ 7 by omega)
    exact_mod_cast this
  omega
theorem WRep.flush256 {bits : List Int} {arr : Array UInt8} {bv fv : Int} (h : WRep bits arr bv fv) : bv * 2 ^ (8 - fv).toNat < 256 := by
  obtain ⟨h1, h2, h3, h4⟩ := h.bound
  have e : (2 : Int) ^ fv.toNat * 2 ^ (8 - fv).toNat = 256 := by
    rw [← Int.pow_add, show fv.toNat + (8 - fv).toNat = 8 by omega]; rfl
  calc bv * 2 ^ (8 - fv).toNat < 2 ^ fv.toNat * 2 ^ (8 - fv).toNat := Int.mul_lt_mul_of_pos_right h2 (Int.pow_pos (by decide))
    _ = 256 := e
/-- one bit more, the octet not full -/
theorem WRep.more {bits : List Int} {arr : Array UInt8} {bv fv b : Int} (h : WRep bits arr bv fv) (hb : b = 0 ∨ b = 1) (hf : fv + 1 ≠ 8) : WRep (bits ++ [b]) arr (2 * bv + b) (fv + 1) := by
  obtain ⟨h1, h2, h3, h4, h5, h6⟩ := h
  refine ⟨h1.append (IsBits.single hb), by omega, by omega, by simp; omega, ?_, ?_⟩
  · rw [byteArr_range (by omega)]; exact h5
  · rw [List.drop_append_of_le_length (by omega), num_snoc, h6]
/-- one bit more, the octet full -/
theorem WRep.full {bits : List Int} {arr : Array UInt8} {bv fv b : Int} (h : WRep bits arr bv fv) (hb : b = 0 ∨ b = 1) (hf : fv + 1 = 8) : WRep (bits ++ [b]) (arr.push (2 * bv + b).toNat.toUInt8) 0 0 := by
  obtain ⟨h1, h2, h3, h4, h5, h6⟩ := h
  refine ⟨h1.append (IsBits.single hb), by decide, by decide, by simp; omega, ?_, ?_⟩
  · rw [Array.size_push, List.range_succ, List.map_append, List.map_singleton, byteArr_snoc, byteArr_range (by omega), ← h5]
    congr 3
    rw [octAt_tail (n := 8) (by simp; omega) (by decide), List.drop_append_of_le_length (by omega), num_snoc, h6]
    simp
  · rw [Array.size_push, List.drop_of_length_le (by simp; omega)]; rfl
/-- a flush of a part of an octet -/
theorem WRep.flush {bits : List Int} {arr : Array UInt8} {bv fv : Int} (h : WRep bits arr bv fv) (hf : fv ≠ 0) :
    WRep (bits ++ List.replicate (8 - fv.toNat) 0) (arr.push (bv * 2 ^ (8 - fv).toNat).toNat.toUInt8) 0 0 := by
  obtain ⟨h1, h2, h3, h4, h5, h6⟩ := h
  refine ⟨h1.append fun b hb => .inl (List.eq_of_mem_replicate hb), by decide, by decide, by simp; omega, ?_, ?_⟩
  · rw [Array.size_push, List.range_succ, List.map_append, List.map_singleton, byteArr_snoc, byteArr_range (by omega), ← h5]
    congr 3
    rw [octAt_tail (n := 8) (by simp; omega) (by decide), List.drop_append_of_le_length (by omega), num_append, num_zeros, h6, List.length_replicate]
    have e : (8 - fv).toNat = 8 - fv.toNat := by omega
    rw [e]; simp
  · rw [Array.size_push, List.drop_of_length_le (by simp; omega)]; rfl
/-- with no open octet the array is the whole row -/
theorem WRep.whole {bits : List Int} {arr : Array UInt8} {bv : Int} (h : WRep bits arr bv 0) : arr = byteArr (octs bits) := by
  obtain ⟨h1, h2, h3, h4, h5, h6⟩ := h
  have e : (bits.length + 7) / 8 = arr.size := by omega
  unfold octs
  rw [e]; exact h5
theorem bitOr_and (x y : Int) : Builtin.bitOr x y = x + y - Builtin.bitAnd x y := by
  have h := bitXor_and x y
  have e : Builtin.bitXor x y = Builtin.bitOr x y - Builtin.bitAnd x y := rfl
  omega
theorem or_bit {a b : Int} (hb : b = 0 ∨ b = 1) : Builtin.bitOr (a * 2) b = 2 * a + b := by
  rw [bitOr_and]
  rcases hb with rfl | rfl
  · have : Builtin.bitAnd (a * 2) 0 = 0 := by
      have h := PySem.W.kbt_mask (a * 2) 0
      simpa using h
    omega
  · rw [bitAnd_m1]; omega
theorem shl_or (bv n c : Int) (i : Nat) : Builtin.bitOr (bv * 2 ^ Int.toNat 1) (Builtin.bitAnd (n.fdiv (2 ^ (c - 1 + (i : Int) * -1).toNat)) 1) = 2 * bv + bitAt n c i := by
  have e : Builtin.bitAnd (n.fdiv (2 ^ (c - 1 + (i : Int) * -1).toNat)) 1 = bitAt n c i := by
    rw [bitAnd_m1]
    unfold bitAt
    rw [Int.fmod_eq_emod_of_nonneg _ (by decide)]
    congr 4
    omega
  rw [e]
  exact or_bit (bitAt_bit n c i)
theorem bitAt_emod (n c : Int) (i : Nat) : bitAt n c i = n / 2 ^ (c - 1 - (i : Int)).toNat % 2 := by
  unfold bitAt
  rw [Int.fmod_eq_emod_of_nonneg _ (by decide), Int.fdiv_eq_ediv_of_nonneg _ (Int.pow_nonneg (by decide))]
/-- a row of bits out of its number -/
theorem bitsOf_num {l : List Int} (h : IsBits l) : bitsOf (num l) (l.length : Int) = l := by
  have key : ∀ (n : Nat) (l : List Int), l.length = n → IsBits l → bitsN (num l) (n : Int) n = l := by
    intro n
    induction n with
    | zero => intro l hl _; rw [List.length_eq_zero_iff.mp hl]; rfl
    | succ n ih =>
      intro l hl hb
      have hne : l ≠ [] := by intro e; rw [e] at hl; simp at hl
      obtain ⟨r, b, rfl⟩ : ∃ r b, l = r ++ [b] := ⟨l.dropLast, l.getLast hne, (List.dropLast_concat_getLast hne).symm⟩
      have hr : r.length = n := by simpa using hl
      have hbb : b = 0 ∨ b = 1 := hb b (by simp)
      have hrb : IsBits r := fun c hc => hb c (by simp [hc])
      rw [bitsN_succ]
      congr 1
      · refine Eq.trans ?_ (ih r hr hrb)
        unfold bitsN
        apply List.map_congr_left
        intro i hi
        have hi' := List.mem_range.mp hi
        rw [num_snoc, bitAt_emod, bitAt_emod]
        have e : (((n + 1 : Nat) : Int) - 1 - (i : Int)).toNat = ((n : Int) - 1 - (i : Int)).toNat + 1 := by omega
        rw [e, Int.pow_succ, Int.mul_comm (2 ^ ((n : Int) - 1 - (i : Int)).toNat) 2, ← Int.ediv_ediv_of_nonneg (by decide)]
        have e2 : (2 * num r + b) / 2 = num r := by omega
        rw [e2]
      · rw [num_snoc, bitAt_emod]
        have e : (((n + 1 : Nat) : Int) - 1 - (n : Int)).toNat = 0 := by omega
        rw [e]
        simp; omega
  unfold bitsOf
  rw [Int.toNat_natCast]
  exact key _ l rfl h
theorem emod_twice (x : Int) {P : Int} (hP : 0 < P) : 2 * (x / 2 % P) + x % 2 = x % (P * 2) := by
  have e1 : x / 2 = P * (x / 2 / P) + x / 2 % P := by have := Int.emod_add_mul_ediv (x / 2) P; omega
  have h1 := Int.emod_nonneg (x / 2) (Int.ne_of_gt hP)
  have h2 := Int.emod_lt_of_pos (x / 2) hP
  have e2 : x = (2 * (x / 2 % P) + x % 2) + (P * 2) * (x / 2 / P) := by
    have e3 : (P * 2) * (x / 2 / P) = 2 * (P * (x / 2 / P)) := by rw [Int.mul_comm P 2, Int.mul_assoc]
    rw [e3]
    omega
  have e4 : x % (P * 2) = ((2 * (x / 2 % P) + x % 2) + (P * 2) * (x / 2 / P)) % (P * 2) := by rw [← e2]
  rw [e4, Int.add_mul_emod_self_left]
  exact (Int.emod_eq_of_lt (by omega) (by omega)).symm
theorem num_bitsN (n c : Int) (k : Nat) (hk : (k : Int) ≤ c) : num (bitsN n c k) = n / 2 ^ (c - (k : Int)).toNat % 2 ^ k := by
  induction k with
  | zero => simp [bitsN, num]
  | succ k ih =>
    rw [bitsN_succ, num_snoc, ih (by omega), bitAt_emod]
    have e : (c - (k : Int)).toNat = (c - ((k + 1 : Nat) : Int)).toNat + 1 := by omega
    have e2 : (c - 1 - (k : Int)).toNat = (c - ((k + 1 : Nat) : Int)).toNat := by omega
    rw [e, e2, Int.pow_succ, ← Int.ediv_ediv_of_nonneg (Int.pow_nonneg (by decide)), Int.pow_succ]
    generalize n / 2 ^ (c - ((k + 1 : Nat) : Int)).toNat = x
    exact emod_twice x (Int.pow_pos (by decide))
theorem num_bitsOf (n c : Int) (hc : 0 ≤ c) : num (bitsOf n c) = n % 2 ^ c.toNat := by
  unfold bitsOf
  rw [num_bitsN n c _ (by omega)]
  have e : (c - (c.toNat : Int)).toNat = 0 := by omega
  rw [e]; simp
theorem num_ones (q : Nat) : num (List.replicate q 1) = 2 ^ q - 1 := by
  induction q with
  | zero => rfl
  | succ q ih => rw [List.replicate_succ', num_snoc, ih, Int.pow_succ]; omega
theorem bits_ones (q : Int) (hq : 0 ≤ q) : bitsOf ((1 * 2 ^ q.toNat - 1) * 2 ^ Int.toNat 1) (q + 1) = List.replicate q.toNat 1 ++ [0] := by
  have hb : IsBits (List.replicate q.toNat (1 : Int) ++ [0]) := by
    intro b hb
    rcases List.mem_append.mp hb with h | h
    · exact .inr (List.eq_of_mem_replicate h)
    · exact .inl (List.mem_singleton.mp h)
  have h := bitsOf_num hb
  rw [num_snoc, num_ones, List.length_append, List.length_replicate, List.length_singleton] at h
  have e1 : ((q.toNat + 1 : Nat) : Int) = q + 1 := by omega
  have e2 : ((1 : Int) * 2 ^ q.toNat - 1) * 2 ^ Int.toNat 1 = 2 * (2 ^ q.toNat - 1) + 0 := by
    rw [Int.one_mul, show (2 : Int) ^ Int.toNat 1 = 2 from rfl, Int.mul_comm, Int.add_zero]
  rw [e1] at h
  rw [e2]; exact h
/-- a number of k bits -/
def R64 (x : Int) : Prop := 0 ≤ x ∧ x < 2 ^ 64
theorem both_range (k : Nat) : ∀ x y : Int, 0 ≤ x → x < 2 ^ k → 0 ≤ y → y < 2 ^ k → 0 ≤ Builtin.bitAnd x y ∧ 0 ≤ x + y - 2 * Builtin.bitAnd x y ∧ x + y - Builtin.bitAnd x y < 2 ^ k := by
  induction k with
  | zero =>
    intro x y h1 h2 h3 h4
    have e1 : x = 0 := by simp at h2; omega
    have e2 : y = 0 := by simp at h4; omega
    subst e1 e2
    decide
  | succ k ih =>
    intro x y h1 h2 h3 h4
    rw [Int.pow_succ] at h2 h4 ⊢
    have h := ih (x / 2) (y / 2) (by omega) (by omega) (by omega) (by omega)
    rw [PySem.W.kbt_halves x y]
    split <;> omega
theorem and_mask (x : Int) : R64 (Builtin.bitAnd x 18446744073709551615) := by
  have h := PySem.W.kbt_mask x 64
  have e : ((2 : Int) ^ 64 - 1) = 18446744073709551615 := by decide
  rw [e] at h
  unfold R64
  rw [h]
  omega
theorem xor_range {x y : Int} (hx : R64 x) (hy : R64 y) : R64 (Builtin.bitXor x y) := by
  have h := both_range 64 x y hx.1 hx.2 hy.1 hy.2
  unfold R64
  rw [bitXor_and]
  omega
theorem or_range {x y : Int} (hx : R64 x) (hy : R64 y) : R64 (Builtin.bitOr x y) := by
  have h := both_range 64 x y hx.1 hx.2 hy.1 hy.2
  unfold R64
  rw [bitOr_and]
  omega
end
section
set_option maxRecDepth 100000
set_option maxHeartbeats 8000000
local macro_rules | `(tactic| walk_at "fc enter") => `(tactic| k_dflt (first
  | (refine' code_def ?k1 ?k2 ?k3 ?k4 ?k5 ?kA ?kF ?kK ?k6 ?k7 ?k8 ?k9 ?kB ?_ ?c2 ?c3 ?c4 ?c5; (case kA => exact rfl); (case kF => exact rfl); (case kK => first | exact rfl | assumption); (case k1 => k_asm); (case k2 => k_asm); (case k3 => k_asm); (case k4 => k_asm); (case k5 => k_asm); (case k6 => k_is); (case k7 => k_is); (case k8 => ktr_room); (case k9 => first | exact BindsTo.of_eq rfl | exact binds_K (by k_in) rfl (by k_is) rfl rfl rfl); (case c5 => decide); (case kB => exact locs rfl); (case c2 => exact rfl); (case c3 => exact rfl); (case c4 => exact rfl); k_whole; intro g' L' h' FG' F' N' B' X' T'; (try dsimp only); (try k_lift B'); (try k_fold))
  | (refine' code_defC ?k1 ?k2 ?k3 ?k4 ?k5 ?kA ?kF ?kK ?k6 ?k7 ?k8 ?k9 ?kB ?kD ?_ ?c2 ?c3 ?c4; (case kA => exact rfl); (case kF => exact rfl); (case kK => first | exact rfl | assumption); (case k1 => k_asm); (case k2 => k_asm); (case k3 => k_asm); (case k4 => k_asm); (case k5 => k_asm); (case k6 => k_is); (case k7 => k_is); (case k8 => ktr_room); (case k9 => first | exact BindsTo.of_eq rfl | exact binds_K (by k_in) rfl (by k_is) rfl rfl rfl); (case kB => exact rfl); (case kD => decide +kernel); (case c2 => exact rfl); (case c3 => exact rfl); (case c4 => exact rfl); k_whole; intro g' L' h' tk' cells' FG' F' N' Y' B' X' T' l1; (try k_lt l1); k_cells Y'; (try simp only [List.cons_append, List.nil_append] at N'); (try dsimp only); (try k_lift B'); (try k_fold))))
local macro_rules | `(tactic| walk_at "fc enterW") => `(tactic| k_dflt (
  (refine' code_defW ?k1 ?k2 ?k3 ?k4 ?k5 ?kA ?kF ?kK ?k6 ?k7 ?k8 ?k9 ?kB ?_ ?c2 ?c3 ?c4 ?c5; (case kA => exact rfl); (case kF => exact rfl); (case kK => first | exact rfl | assumption); (case k1 => k_asm); (case k2 => k_asm); (case k3 => k_asm); (case k4 => k_asm); (case k5 => k_asm); (case k6 => k_is); (case k7 => k_is); (case k8 => ktr_room); (case k9 => first | exact BindsTo.of_eq rfl | exact binds_K (by k_in) rfl (by k_is) rfl rfl rfl); (case c5 => decide); (case kB => exact locs rfl); (case c2 => exact rfl); (case c3 => exact rfl); (case c4 => exact rfl); k_whole; intro g' L' h' tk' FG' F' N' B' X' T' l1; (try k_lt l1); (try dsimp only); (try k_lift B'))))
local macro_rules | `(tactic| k_all) => `(tactic| exact off_of_lt (by with_reducible assumption))
local macro_rules | `(tactic| k_all) => `(tactic| with_reducible assumption)
local macro_rules | `(tactic| walk_at "fc sub") => `(tactic| (intro p9 h9; simp only [List.mem_cons, List.mem_append] at h9 ⊢; grind))
local macro_rules | `(tactic| walk_at "fc led") => `(tactic| first
  | exact List.forall_mem_nil _
  | (refine' List.forall_mem_cons.mpr ⟨?fa, ?fb⟩; (case fa => k_mem); (case fb => walk_at "fc led"))
  | (intro p9 h9; repeat (first | exact h9 | refine List.Mem.tail _ ?_)))
local macro_rules | `(tactic| walk_at "exec While") => `(tactic| (rename ParkWhile => z9; clear z9; refine Parked.go ?_))
local macro_rules | `(tactic| walk_at "exec Try") => `(tactic| (rename ParkTry => z9; clear z9; refine Parked.go ?_))
local macro_rules | `(tactic| walk_at "exec For") => `(tactic| (rename ParkFor => z9; clear z9; refine Parked.go ?_))
local macro_rules | `(tactic| walk_at "exec For Name Call") => `(tactic| (rename ParkFor => z9; clear z9; refine Parked.go ?_))
local macro_rules | `(tactic| walk_at "exec For Name Call cons nil") => `(tactic| (rename ParkFor => z9; clear z9; refine Parked.go ?_))
local macro_rules | `(tactic| walk_at "exec For Name Name") => `(tactic| (rename ParkFor => z9; clear z9; refine Parked.go ?_))
local macro_rules | `(tactic| walk_at "exec For Name Name cons nil") => `(tactic| (rename ParkFor => z9; clear z9; refine Parked.go ?_))
local macro_rules | `(tactic| walk_at "exec For Name List cons nil") => `(tactic| (rename ParkFor => z9; clear z9; refine Parked.go ?_))
local macro_rules | `(tactic| walk_at "fc pick") => `(tactic| first | k_asm | (rename News _ _ _ _ => z9; exact cb_drop z9 (by walk_at "fc led")))
local macro_rules | `(tactic| walk_at "fc room") => `(tactic| first | omega | ((try simp only [depth_under_make, depth_under_kw, depth_in1, depth_deeper, depth_caller]); (try dsimp only [ktrTop]); omega) | ktr_room)
local macro_rules | `(tactic| walk_at "fc units") => `(tactic| first | omega | (have hcL9 := cLine_is; (try simp only [units_in1, units_deeper, Around.mark_units, units_caller]); (try dsimp only [ktrTop]); omega) | ktr_units)

theorem specC_newWriter {w : World} {mean : ExcName → Option Value} {mg mb : Str → Option Value} {news : List (Addr × Obj)} :
    SpecC w mean mg mb 132 [] news 10 100 (fun r news' => ∃ x dx b h1 h2 h3 k1 k2 k3 t2 t3, r = .ref x ∧
      news' = (x, instObj 132 dx) :: (dx, wDict h1 h2 h3 k1 k2 k3 b 0 t2 0 t3) :: (b, baObj #[]) :: news ∧ (∀ p ∈ news, p.1 < dx) ∧ dx < x ∧ x < b) := by
  unfold SpecC
  k_fill
  intro dp un cn cs a ccd cl outer A₀ base h₀ L m s Q E B F X N T hk hd hu hret
  refine callC_make F X N (by k_is) (by k_is) (by k_is) ?_
  intro x dx h' F' N' l1 l2
  k_lt2 l2
  walk_at "fc enterW"
  refine wpC_cons (wpC_Assign (wpC_CallName ?_))
  k_steps
  refine wpC_callWith (P := fun _ => True) rfl keeps_type (wpC_splicedNil ⟨trivial, ?_⟩)
  refine wpC_newBaK (by k_asm) (by k_asm) (by rfl) ?_
  intro b h' F' N' l2'
  k_lt l2'
  refine assign_Attr ?_
  k_steps
  dsimp only
  refine wpC_consL ?_
  k_steps
  dsimp only
  refine wpC_consL ?_
  k_steps
  dsimp only
  refine wpC_nil ?_
  refine leaveK_ (by k_asm) (by k_asm) ?_
  intro kF kN
  dsimp only [InitBack]
  refine ⟨rfl, ?_⟩
  refine hret _ _ _ _ kF (cb_drop (news := (x, instObj 132 dx) :: (dx, wDict ?h1 ?h2 ?h3 ?k1 ?k2 ?k3 b 0 ?t2 0 ?t3) :: (b, baObj #[]) :: news) kN (by walk_at "fc led")) ⟨x, dx, b, _, _, _, _, _, _, _, _, rfl, rfl, l1, l2, l2'.1⟩
end
section
local macro_rules | `(tactic| walk_at "fc nil") => `(tactic| fail "none")
set_option maxRecDepth 100000
set_option maxHeartbeats 8000000
local macro_rules | `(tactic| walk_at "fc enter") => `(tactic| k_dflt (first
  | (refine' code_def ?k1 ?k2 ?k3 ?k4 ?k5 ?kA ?kF ?kK ?k6 ?k7 ?k8 ?k9 ?kB ?_ ?c2 ?c3 ?c4 ?c5; (case kA => exact rfl); (case kF => exact rfl); (case kK => first | exact rfl | assumption); (case k1 => k_asm); (case k2 => k_asm); (case k3 => k_asm); (case k4 => k_asm); (case k5 => k_asm); (case k6 => k_is); (case k7 => k_is); (case k8 => ktr_room); (case k9 => first | exact BindsTo.of_eq rfl | exact binds_K (by k_in) rfl (by k_is) rfl rfl rfl); (case c5 => decide); (case kB => exact locs rfl); (case c2 => exact rfl); (case c3 => exact rfl); (case c4 => exact rfl); k_whole; intro g' L' h' FG' F' N' B' X' T'; (try dsimp only); (try k_lift B'); (try k_fold))
  | (refine' code_defC ?k1 ?k2 ?k3 ?k4 ?k5 ?kA ?kF ?kK ?k6 ?k7 ?k8 ?k9 ?kB ?kD ?_ ?c2 ?c3 ?c4; (case kA => exact rfl); (case kF => exact rfl); (case kK => first | exact rfl | assumption); (case k1 => k_asm); (case k2 => k_asm); (case k3 => k_asm); (case k4 => k_asm); (case k5 => k_asm); (case k6 => k_is); (case k7 => k_is); (case k8 => ktr_room); (case k9 => first | exact BindsTo.of_eq rfl | exact binds_K (by k_in) rfl (by k_is) rfl rfl rfl); (case kB => exact rfl); (case kD => decide +kernel); (case c2 => exact rfl); (case c3 => exact rfl); (case c4 => exact rfl); k_whole; intro g' L' h' tk' cells' FG' F' N' Y' B' X' T' l1; (try k_lt l1); k_cells Y'; (try simp only [List.cons_append, List.nil_append] at N'); (try dsimp only); (try k_lift B'); (try k_fold))))
local macro_rules | `(tactic| walk_at "fc enterW") => `(tactic| k_dflt (
  (refine' code_defW ?k1 ?k2 ?k3 ?k4 ?k5 ?kA ?kF ?kK ?k6 ?k7 ?k8 ?k9 ?kB ?_ ?c2 ?c3 ?c4 ?c5; (case kA => exact rfl); (case kF => exact rfl); (case kK => first | exact rfl | assumption); (case k1 => k_asm); (case k2 => k_asm); (case k3 => k_asm); (case k4 => k_asm); (case k5 => k_asm); (case k6 => k_is); (case k7 => k_is); (case k8 => ktr_room); (case k9 => first | exact BindsTo.of_eq rfl | exact binds_K (by k_in) rfl (by k_is) rfl rfl rfl); (case c5 => decide); (case kB => exact locs rfl); (case c2 => exact rfl); (case c3 => exact rfl); (case c4 => exact rfl); k_whole; intro g' L' h' tk' FG' F' N' B' X' T' l1; (try k_lt l1); (try dsimp only); (try k_lift B'))))
local macro_rules | `(tactic| k_all) => `(tactic| exact off_of_lt (by with_reducible assumption))
local macro_rules | `(tactic| k_all) => `(tactic| with_reducible assumption)
local macro_rules | `(tactic| walk_at "fc sub") => `(tactic| (intro p9 h9; simp only [List.mem_cons, List.mem_append] at h9 ⊢; grind))
local macro_rules | `(tactic| walk_at "fc led") => `(tactic| first
  | exact List.forall_mem_nil _
  | (refine' List.forall_mem_cons.mpr ⟨?fa, ?fb⟩; (case fa => k_mem); (case fb => walk_at "fc led"))
  | (intro p9 h9; repeat (first | exact h9 | refine List.Mem.tail _ ?_)))
local macro_rules | `(tactic| walk_at "exec While") => `(tactic| (rename ParkWhile => z9; clear z9; refine Parked.go ?_))
local macro_rules | `(tactic| walk_at "exec Try") => `(tactic| (rename ParkTry => z9; clear z9; refine Parked.go ?_))
local macro_rules | `(tactic| walk_at "exec For") => `(tactic| (rename ParkFor => z9; clear z9; refine Parked.go ?_))
local macro_rules | `(tactic| walk_at "exec For Name Call") => `(tactic| (rename ParkFor => z9; clear z9; refine Parked.go ?_))
local macro_rules | `(tactic| walk_at "exec For Name Call cons nil") => `(tactic| (rename ParkFor => z9; clear z9; refine Parked.go ?_))
local macro_rules | `(tactic| walk_at "exec For Name Name") => `(tactic| (rename ParkFor => z9; clear z9; refine Parked.go ?_))
local macro_rules | `(tactic| walk_at "exec For Name Name cons nil") => `(tactic| (rename ParkFor => z9; clear z9; refine Parked.go ?_))
local macro_rules | `(tactic| walk_at "exec For Name List cons nil") => `(tactic| (rename ParkFor => z9; clear z9; refine Parked.go ?_))
local macro_rules | `(tactic| walk_at "fc pick") => `(tactic| first | k_asm | (rename News _ _ _ _ => z9; exact cb_drop z9 (by walk_at "fc led")))
local macro_rules | `(tactic| walk_at "fc room") => `(tactic| first | omega | ((try simp only [depth_under_make, depth_under_kw, depth_in1, depth_deeper, depth_caller]); (try dsimp only [ktrTop]); omega) | ktr_room)
local macro_rules | `(tactic| walk_at "fc units") => `(tactic| first | omega | (have hcL9 := cLine_is; (try simp only [units_in1, units_deeper, Around.mark_units, units_caller]); (try dsimp only [ktrTop]); omega) | ktr_units)

/-- the places of a writer's parts stand apart, and apart from the rest -/
structure WSep (x dx b : Addr) (news : List (Addr × Obj)) : Prop where
  xd : @Ne Nat x dx
  xb : @Ne Nat x b
  db : @Ne Nat dx b
  offd : ∀ p ∈ news, p.1 ≠ dx
  offb : ∀ p ∈ news, p.1 ≠ b

theorem specC_write {w : World} {mean : ExcName → Option Value} {mg mb : Str → Option Value} {news : List (Addr × Obj)} {x dx b : Addr} {h1 h2 h3 : Int} {k1 k2 k3 tb tf : Tok} {bits : List Int} {arr : Array UInt8} {bv fv : Int}
    {n c : Int} {tn tc : Tok} (S : WSep x dx b news) (W : WRep bits arr bv fv) (hc0 : 0 ≤ c) (hc : c < 40) (hz : bits.length < 100000) :
    SpecC w mean mg mb 122 [.ref x, .int n tn, .int c tc] ((x, instObj 132 dx) :: (dx, wDict h1 h2 h3 k1 k2 k3 b bv tb fv tf) :: (b, baObj arr) :: news) 10 100
      (fun r news' => r = .none ∧ ∃ arr' bv' fv' tb' tf', WRep (bits ++ bitsOf n c) arr' bv' fv' ∧
        news' = (x, instObj 132 dx) :: (dx, wDict h1 h2 h3 k1 k2 k3 b bv' tb' fv' tf') :: (b, baObj arr') :: news) := by
  unfold SpecC
  k_fill
  intro dp un cn cs a ccd cl outer A₀ base h₀ L m s Q E B F X N T hk hd hu hret
  refine wpC_call ?_
  walk_at "fc enterW"
  refine wpC_cons (wpS_C (exec_forS ?_))
  k_steps
  refine' forRangeM (K := tidyK) (n := c.toNat) (J := fun m₀ i m' news' => (∃ u, m' = fun y => if y = Str.ofString "shift" then u else m₀ y) ∧ ∃ arr' bv' fv' tb' tf', WRep (bits ++ bitsN n c i) arr' bv' fv' ∧
    news' = (x, instObj 132 dx) :: (dx, wDict h1 h2 h3 k1 k2 k3 b bv' tb' fv' tf') :: (b, baObj arr') :: news) ?hh ?hK ?hKb ?hk ?hx ?hr ?F ?N ?hsm ?hn ?h0 ?sep ?turn ?done
  case hh => exact rfl
  case hK => exact fun _ => rfl
  case hKb => exact rfl
  case hk => exact rfl
  case hx => exact rfl
  case hr => assumption
  case F => k_asm
  case N => k_asm
  case hsm => exact small_down hc0 (by omega)
  case hn => exact size_down hc0
  case h0 => exact ⟨⟨_, same_name⟩, arr, bv, fv, tb, tf, by simpa [bitsN] using W, rfl⟩
  case sep =>
    rintro I i m' news' hI _ ⟨_, arr', bv', fv', tb', tf', _, rfl⟩ p hp
    simp only [List.forall_mem_cons] at hI
    obtain ⟨i1, i2, i3, i4⟩ := hI
    simp only [List.mem_cons] at hp
    rcases hp with rfl | rfl | rfl | hp
    · exact Nat.ne_of_lt i1
    · exact Nat.ne_of_lt i2
    · exact Nat.ne_of_lt i3
    · exact Nat.ne_of_lt (i4 p hp)
  case turn =>
    intro I hI i tk o m' news' h tk' hi hJ F1 N1
    obtain ⟨⟨u, rfl⟩, arr', bv', fv', tb', tf', W', rfl⟩ := hJ
    rw [reset_name] at F1
    have hb := W'.bound128
    have hbit := bitAt_bit n c i
    have hxd := S.xd
    have hxb := S.xb
    have hdb := S.db
    have hod := S.offd
    have hob := S.offb
    have hsh : 0 ≤ c - 1 + (i : Int) * -1 ∧ c - 1 + (i : Int) * -1 < 40 := by omega
    k_lt hI
    refine C_wpS (wpC_consL ?_)
    k_steps
    dsimp only
    rename News _ _ _ _ => N2
    rw [shl_or] at N2
    refine wpC_consL ?_
    k_steps
    dsimp only
    refine wpC_cons (wpC_IfL ?_)
    k_steps
    · rename (fv' + 1 = 8) => hfull
      refine wpC_cons (wpC_Expr (wpC_CallMeth ?_))
      k_steps
      refine getMethod_append (News.get (by k_asm) (by k_mem)) ?_
      refine wpC_callWith (P := fun _ => True) rfl keeps_machine (wpC_of ?_)
      k_steps
      · trivial
      have hsz : 8 * arr'.size ≤ bits.length + i := by have := W'.2.2.2.1; simp [bitsN_length] at this; omega
      refine wpC_appendK (by k_asm) (by k_asm) (by k_upd) rfl (by omega) (by omega) (by rw [sizeLine_eq]; omega) ?_
      intro h' F' N'
      refine ⟨rfl, ?_⟩
      dsimp only
      refine wpC_consL ?_
      k_steps
      dsimp only
      refine wpC_consL ?_
      k_steps
      dsimp only
      refine wpC_nil ?_
      dsimp only
      refine wpC_nil ?_
      refine' TurnEnd.next (news' := (x, instObj 132 dx) :: (dx, wDict h1 h2 h3 k1 k2 k3 b 0 ?tb1 0 ?tf1) :: (b, baObj (arr'.push (2 * bv' + bitAt n c i).toNat.toUInt8)) :: news) ?F1 ?N1 ?led1 ?J1
      case F1 => k_asm
      case N1 => k_asm
      case led1 => walk_at "fc led"
      case J1 => exact ⟨⟨_, rfl⟩, _, _, _, _, _, by rw [bitsN_succ, ← List.append_assoc]; exact W'.full hbit hfull, rfl⟩
    · rename (fv' + 1 ≠ 8) => hmore
      refine wpC_nil ?_
      dsimp only
      try refine wpC_nil ?_
      refine' TurnEnd.next (news' := (x, instObj 132 dx) :: (dx, wDict h1 h2 h3 k1 k2 k3 b (2 * bv' + bitAt n c i) ?tb2 (fv' + 1) ?tf2) :: (b, baObj arr') :: news) ?F2 ?N2 ?led2 ?J2
      case F2 => k_asm
      case N2 => k_asm
      case led2 => walk_at "fc led"
      case J2 => exact ⟨⟨_, rfl⟩, _, _, _, _, _, by rw [bitsN_succ, ← List.append_assoc]; exact W'.more hbit hmore, rfl⟩
  case done =>
    intro m' news' h tk hJ F1 N1
    obtain ⟨⟨u, rfl⟩, arr', bv', fv', tb', tf', W', rfl⟩ := hJ
    dsimp only
    refine wpC_nil ?_
    refine leaveK_ F1 N1 ?_
    intro kF kN
    dsimp only
    exact hret _ _ _ _ kF kN ⟨rfl, arr', bv', fv', tb', tf', W', rfl⟩
end
section
set_option maxRecDepth 100000
set_option maxHeartbeats 8000000
local macro_rules | `(tactic| walk_at "fc enter") => `(tactic| k_dflt (first
  | (refine' code_def ?k1 ?k2 ?k3 ?k4 ?k5 ?kA ?kF ?kK ?k6 ?k7 ?k8 ?k9 ?kB ?_ ?c2 ?c3 ?c4 ?c5; (case kA => exact rfl); (case kF => exact rfl); (case kK => first | exact rfl | assumption); (case k1 => k_asm); (case k2 => k_asm); (case k3 => k_asm); (case k4 => k_asm); (case k5 => k_asm); (case k6 => k_is); (case k7 => k_is); (case k8 => ktr_room); (case k9 => first | exact BindsTo.of_eq rfl | exact binds_K (by k_in) rfl (by k_is) rfl rfl rfl); (case c5 => decide); (case kB => exact locs rfl); (case c2 => exact rfl); (case c3 => exact rfl); (case c4 => exact rfl); k_whole; intro g' L' h' FG' F' N' B' X' T'; (try dsimp only); (try k_lift B'); (try k_fold))
  | (refine' code_defC ?k1 ?k2 ?k3 ?k4 ?k5 ?kA ?kF ?kK ?k6 ?k7 ?k8 ?k9 ?kB ?kD ?_ ?c2 ?c3 ?c4; (case kA => exact rfl); (case kF => exact rfl); (case kK => first | exact rfl | assumption); (case k1 => k_asm); (case k2 => k_asm); (case k3 => k_asm); (case k4 => k_asm); (case k5 => k_asm); (case k6 => k_is); (case k7 => k_is); (case k8 => ktr_room); (case k9 => first | exact BindsTo.of_eq rfl | exact binds_K (by k_in) rfl (by k_is) rfl rfl rfl); (case kB => exact rfl); (case kD => decide +kernel); (case c2 => exact rfl); (case c3 => exact rfl); (case c4 => exact rfl); k_whole; intro g' L' h' tk' cells' FG' F' N' Y' B' X' T' l1; (try k_lt l1); k_cells Y'; (try simp only [List.cons_append, List.nil_append] at N'); (try dsimp only); (try k_lift B'); (try k_fold))))
local macro_rules | `(tactic| walk_at "fc enterW") => `(tactic| k_dflt (
  (refine' code_defW ?k1 ?k2 ?k3 ?k4 ?k5 ?kA ?kF ?kK ?k6 ?k7 ?k8 ?k9 ?kB ?_ ?c2 ?c3 ?c4 ?c5; (case kA => exact rfl); (case kF => exact rfl); (case kK => first | exact rfl | assumption); (case k1 => k_asm); (case k2 => k_asm); (case k3 => k_asm); (case k4 => k_asm); (case k5 => k_asm); (case k6 => k_is); (case k7 => k_is); (case k8 => ktr_room); (case k9 => first | exact BindsTo.of_eq rfl | exact binds_K (by k_in) rfl (by k_is) rfl rfl rfl); (case c5 => decide); (case kB => exact locs rfl); (case c2 => exact rfl); (case c3 => exact rfl); (case c4 => exact rfl); k_whole; intro g' L' h' tk' FG' F' N' B' X' T' l1; (try k_lt l1); (try dsimp only); (try k_lift B'))))
local macro_rules | `(tactic| k_all) => `(tactic| exact off_of_lt (by with_reducible assumption))
local macro_rules | `(tactic| k_all) => `(tactic| with_reducible assumption)
local macro_rules | `(tactic| walk_at "fc sub") => `(tactic| (intro p9 h9; simp only [List.mem_cons, List.mem_append] at h9 ⊢; grind))
local macro_rules | `(tactic| walk_at "fc led") => `(tactic| first
  | exact List.forall_mem_nil _
  | (refine' List.forall_mem_cons.mpr ⟨?fa, ?fb⟩; (case fa => k_mem); (case fb => walk_at "fc led"))
  | (intro p9 h9; repeat (first | exact h9 | refine List.Mem.tail _ ?_)))
local macro_rules | `(tactic| walk_at "exec While") => `(tactic| (rename ParkWhile => z9; clear z9; refine Parked.go ?_))
local macro_rules | `(tactic| walk_at "exec Try") => `(tactic| (rename ParkTry => z9; clear z9; refine Parked.go ?_))
local macro_rules | `(tactic| walk_at "exec For") => `(tactic| (rename ParkFor => z9; clear z9; refine Parked.go ?_))
local macro_rules | `(tactic| walk_at "exec For Name Call") => `(tactic| (rename ParkFor => z9; clear z9; refine Parked.go ?_))
local macro_rules | `(tactic| walk_at "exec For Name Call cons nil") => `(tactic| (rename ParkFor => z9; clear z9; refine Parked.go ?_))
local macro_rules | `(tactic| walk_at "exec For Name Name") => `(tactic| (rename ParkFor => z9; clear z9; refine Parked.go ?_))
local macro_rules | `(tactic| walk_at "exec For Name Name cons nil") => `(tactic| (rename ParkFor => z9; clear z9; refine Parked.go ?_))
local macro_rules | `(tactic| walk_at "exec For Name List cons nil") => `(tactic| (rename ParkFor => z9; clear z9; refine Parked.go ?_))
local macro_rules | `(tactic| walk_at "fc pick") => `(tactic| first | k_asm | (rename News _ _ _ _ => z9; exact cb_drop z9 (by walk_at "fc led")))
local macro_rules | `(tactic| walk_at "fc room") => `(tactic| first | omega | ((try simp only [depth_under_make, depth_under_kw, depth_in1, depth_deeper, depth_caller]); (try dsimp only [ktrTop]); omega) | ktr_room)
local macro_rules | `(tactic| walk_at "fc units") => `(tactic| first | omega | (have hcL9 := cLine_is; (try simp only [units_in1, units_deeper, Around.mark_units, units_caller]); (try dsimp only [ktrTop]); omega) | ktr_units)

theorem specC_flush {w : World} {mean : ExcName → Option Value} {mg mb : Str → Option Value} {news : List (Addr × Obj)} {x dx b : Addr} {h1 h2 h3 : Int} {k1 k2 k3 tb tf : Tok} {bits : List Int} {arr : Array UInt8} {bv fv : Int}
    (S : WSep x dx b news) (W : WRep bits arr bv fv) (hz : bits.length < 100000) :
    SpecC w mean mg mb 129 [.ref x] ((x, instObj 132 dx) :: (dx, wDict h1 h2 h3 k1 k2 k3 b bv tb fv tf) :: (b, baObj arr) :: news) 10 100
      (fun r news' => ∃ arr' tb' tf' u bits', (∃ n, n < 8 ∧ bits' = bits ++ List.replicate n 0 ∧ bits'.length % 8 = 0) ∧ r = .bytes (byteArr (octs bits')) u ∧ WRep bits' arr' 0 0 ∧
        news' = (x, instObj 132 dx) :: (dx, wDict h1 h2 h3 k1 k2 k3 b 0 tb' 0 tf') :: (b, baObj arr') :: news) := by
  unfold SpecC
  k_fill
  intro dp un cn cs a ccd cl outer A₀ base h₀ L m s Q E B F X N T hk hd hu hret
  refine wpC_call ?_
  walk_at "fc enterW"
  have hb := W.bound128
  have hxd := S.xd
  have hxb := S.xb
  have hdb := S.db
  have hod := S.offd
  have hob := S.offb
  refine wpC_cons (wpC_IfL ?_)
  k_steps
  · rename (fv ≠ 0) => hf
    refine wpC_cons (wpC_Expr (wpC_CallMeth ?_))
    k_steps
    refine getMethod_append (News.get (by k_asm) (by k_mem)) ?_
    refine wpC_callWith (P := fun _ => True) rfl keeps_machine (wpC_of ?_)
    k_steps
    · trivial
    have hsz : 8 * arr.size ≤ bits.length := by have := W.2.2.2.1; omega
    have h256 : bv * 2 ^ (8 - fv).toNat < 256 := W.flush256
    refine wpC_appendK (by k_asm) (by k_asm) (by k_upd) rfl (by first | exact Int.mul_nonneg (by omega) (Int.pow_nonneg (by decide)) | omega) (by omega) (by rw [sizeLine_eq]; omega) ?_
    intro h' F' N'
    refine ⟨rfl, ?_⟩
    dsimp only
    refine wpC_consL ?_
    k_steps
    dsimp only
    refine wpC_consL ?_
    k_steps
    dsimp only
    refine wpC_nil ?_
    dsimp only
    refine wpC_cons (wpC_Return (wpC_CallName ?_))
    k_steps
    refine wpC_callWith (P := fun _ => True) rfl keeps_type (wpC_of ?_)
    k_steps
    · trivial
    have W' := W.flush hf
    have hb2 : 8 * (arr.push (bv * 2 ^ (8 - fv).toNat).toNat.toUInt8).size = bits.length + (8 - fv.toNat) := by have h4 := W'.2.2.2.1; rw [List.length_append, List.length_replicate] at h4; omega
    refine wpC_of (call_bytes_ba (arr := arr.push (bv * 2 ^ (8 - fv).toNat).toNat.toUInt8) (News.get (by k_asm) (by k_mem)) (by rw [sizeLine_eq]; omega) fun t tk => ?_)
    refine leaveK_ (by k_asm) (by k_asm) ?_
    intro kF kN
    dsimp only
    refine hret _ _ _ _ kF (cb_drop (news := (x, instObj 132 dx) :: (dx, wDict h1 h2 h3 k1 k2 k3 b 0 ?t2 0 ?t3) :: (b, baObj (arr.push (bv * 2 ^ (8 - fv).toNat).toNat.toUInt8)) :: news) kN (by walk_at "fc led")) ⟨_, _, _, t, bits ++ List.replicate (8 - fv.toNat) 0, ⟨8 - fv.toNat, by omega, rfl, by rw [List.length_append, List.length_replicate]; omega⟩, by rw [← W'.whole], W', rfl⟩
  · rename (fv = 0) => hf
    subst hf
    refine wpC_nil ?_
    dsimp only
    refine wpC_cons (wpC_Return (wpC_CallName ?_))
    k_steps
    refine wpC_callWith (P := fun _ => True) rfl keeps_type (wpC_of ?_)
    k_steps
    · trivial
    have h4 := W.2.2.2.1
    have e0 : bv = 0 := by have := W.bound; simp at this; omega
    subst e0
    refine wpC_of (call_bytes_ba (arr := arr) (News.get (by k_asm) (by k_mem)) (by rw [sizeLine_eq]; omega) fun t tk => ?_)
    refine leaveK_ (by k_asm) (by k_asm) ?_
    intro kF kN
    dsimp only
    refine hret _ _ _ _ kF (cb_drop (news := (x, instObj 132 dx) :: (dx, wDict h1 h2 h3 k1 k2 k3 b 0 tb 0 tf) :: (b, baObj arr) :: news) kN (by walk_at "fc led")) ⟨_, _, _, t, bits ++ List.replicate 0 0, ⟨0, by omega, rfl, by simp; omega⟩, by rw [List.replicate_zero, List.append_nil, ← W.whole], by simpa using W, rfl⟩
end
section
local macro_rules | `(tactic| walk_at "fc nil") => `(tactic| fail "none")
set_option maxRecDepth 100000
set_option maxHeartbeats 8000000
local macro_rules | `(tactic| walk_at "fc enter") => `(tactic| k_dflt (first
  | (refine' code_def ?k1 ?k2 ?k3 ?k4 ?k5 ?kA ?kF ?kK ?k6 ?k7 ?k8 ?k9 ?kB ?_ ?c2 ?c3 ?c4 ?c5; (case kA => exact rfl); (case kF => exact rfl); (case kK => first | exact rfl | assumption); (case k1 => k_asm); (case k2 => k_asm); (case k3 => k_asm); (case k4 => k_asm); (case k5 => k_asm); (case k6 => k_is); (case k7 => k_is); (case k8 => ktr_room); (case k9 => first | exact BindsTo.of_eq rfl | exact binds_K (by k_in) rfl (by k_is) rfl rfl rfl); (case c5 => decide); (case kB => exact locs rfl); (case c2 => exact rfl); (case c3 => exact rfl); (case c4 => exact rfl); k_whole; intro g' L' h' FG' F' N' B' X' T'; (try dsimp only); (try k_lift B'); (try k_fold))
  | (refine' code_defC ?k1 ?k2 ?k3 ?k4 ?k5 ?kA ?kF ?kK ?k6 ?k7 ?k8 ?k9 ?kB ?kD ?_ ?c2 ?c3 ?c4; (case kA => exact rfl); (case kF => exact rfl); (case kK => first | exact rfl | assumption); (case k1 => k_asm); (case k2 => k_asm); (case k3 => k_asm); (case k4 => k_asm); (case k5 => k_asm); (case k6 => k_is); (case k7 => k_is); (case k8 => ktr_room); (case k9 => first | exact BindsTo.of_eq rfl | exact binds_K (by k_in) rfl (by k_is) rfl rfl rfl); (case kB => exact rfl); (case kD => decide +kernel); (case c2 => exact rfl); (case c3 => exact rfl); (case c4 => exact rfl); k_whole; intro g' L' h' tk' cells' FG' F' N' Y' B' X' T' l1; (try k_lt l1); k_cells Y'; (try simp only [List.cons_append, List.nil_append] at N'); (try dsimp only); (try k_lift B'); (try k_fold))))
local macro_rules | `(tactic| walk_at "fc enterW") => `(tactic| k_dflt (
  (refine' code_defW ?k1 ?k2 ?k3 ?k4 ?k5 ?kA ?kF ?kK ?k6 ?k7 ?k8 ?k9 ?kB ?_ ?c2 ?c3 ?c4 ?c5; (case kA => exact rfl); (case kF => exact rfl); (case kK => first | exact rfl | assumption); (case k1 => k_asm); (case k2 => k_asm); (case k3 => k_asm); (case k4 => k_asm); (case k5 => k_asm); (case k6 => k_is); (case k7 => k_is); (case k8 => ktr_room); (case k9 => first | exact BindsTo.of_eq rfl | exact binds_K (by k_in) rfl (by k_is) rfl rfl rfl); (case c5 => decide); (case kB => exact locs rfl); (case c2 => exact rfl); (case c3 => exact rfl); (case c4 => exact rfl); k_whole; intro g' L' h' tk' FG' F' N' B' X' T' l1; (try k_lt l1); (try dsimp only); (try k_lift B'))))
local macro_rules | `(tactic| k_all) => `(tactic| exact off_of_lt (by with_reducible assumption))
local macro_rules | `(tactic| k_all) => `(tactic| with_reducible assumption)
local macro_rules | `(tactic| walk_at "fc sub") => `(tactic| (intro p9 h9; simp only [List.mem_cons, List.mem_append] at h9 ⊢; grind))
local macro_rules | `(tactic| walk_at "fc led") => `(tactic| first
  | exact List.forall_mem_nil _
  | (refine' List.forall_mem_cons.mpr ⟨?fa, ?fb⟩; (case fa => k_mem); (case fb => walk_at "fc led"))
  | (intro p9 h9; repeat (first | exact h9 | refine List.Mem.tail _ ?_)))
local macro_rules | `(tactic| walk_at "exec While") => `(tactic| (rename ParkWhile => z9; clear z9; refine Parked.go ?_))
local macro_rules | `(tactic| walk_at "exec Try") => `(tactic| (rename ParkTry => z9; clear z9; refine Parked.go ?_))
local macro_rules | `(tactic| walk_at "exec For") => `(tactic| (rename ParkFor => z9; clear z9; refine Parked.go ?_))
local macro_rules | `(tactic| walk_at "exec For Name Call") => `(tactic| (rename ParkFor => z9; clear z9; refine Parked.go ?_))
local macro_rules | `(tactic| walk_at "exec For Name Call cons nil") => `(tactic| (rename ParkFor => z9; clear z9; refine Parked.go ?_))
local macro_rules | `(tactic| walk_at "exec For Name Name") => `(tactic| (rename ParkFor => z9; clear z9; refine Parked.go ?_))
local macro_rules | `(tactic| walk_at "exec For Name Name cons nil") => `(tactic| (rename ParkFor => z9; clear z9; refine Parked.go ?_))
local macro_rules | `(tactic| walk_at "exec For Name List cons nil") => `(tactic| (rename ParkFor => z9; clear z9; refine Parked.go ?_))
local macro_rules | `(tactic| walk_at "fc pick") => `(tactic| first | k_asm | (rename News _ _ _ _ => z9; exact cb_drop z9 (by walk_at "fc led")))
local macro_rules | `(tactic| walk_at "fc room") => `(tactic| first | omega | ((try simp only [depth_under_make, depth_under_kw, depth_in1, depth_deeper, depth_caller]); (try dsimp only [ktrTop]); omega) | ktr_room)
local macro_rules | `(tactic| walk_at "fc units") => `(tactic| first | omega | (have hcL9 := cLine_is; (try simp only [units_in1, units_deeper, Around.mark_units, units_caller]); (try dsimp only [ktrTop]); omega) | ktr_units)

theorem specC_encode {w : World} {mean : ExcName → Option Value} {mg mb : Str → Option Value} {news : List (Addr × Obj)} {x dx b : Addr} {h1 h2 h3 : Int} {k1 k2 k3 tb tf : Tok} {bits : List Int} {arr : Array UInt8} {bv fv : Int}
    {n c : Int} {tn tc : Tok} (S : WSep x dx b news) (W : WRep bits arr bv fv) (hc0 : 0 ≤ c) (hc : c < 30) (hq0 : 0 ≤ n.fdiv (2 ^ c.toNat)) (hq : n.fdiv (2 ^ c.toNat) < 30) (hz : bits.length < 90000) :
    SpecC w mean mg mb 178 [.ref x, .int n tn, .int c tc] ((x, instObj 132 dx) :: (dx, wDict h1 h2 h3 k1 k2 k3 b bv tb fv tf) :: (b, baObj arr) :: news) 20 200
      (fun r news' => r = .none ∧ ∃ arr' bv' fv' tb' tf', WRep (bits ++ (List.replicate (n.fdiv (2 ^ c.toNat)).toNat 1 ++ [0] ++ bitsOf n c)) arr' bv' fv' ∧
        news' = (x, instObj 132 dx) :: (dx, wDict h1 h2 h3 k1 k2 k3 b bv' tb' fv' tf') :: (b, baObj arr') :: news) := by
  unfold SpecC
  k_fill
  intro dp un cn cs a ccd cl outer A₀ base h₀ L m s Q E B F X N T hk hd hu hret
  refine wpC_call ?_
  walk_at "fc enterW"
  refine wpC_consL ?_
  k_steps
  dsimp only
  refine wpC_cons (wpC_Expr (wpC_CallMeth ?_))
  k_steps
  refine wpC_callWith (P := (FC.hd.heap_39 w.params).In) rfl (keeps_K (by k_is)) (wpC_of ?_)
  k_steps
  have hqt : (n.fdiv (2 ^ c.toNat)).toNat < 30 := by omega
  refine' specC_use (specC_write (h1 := h1) (h2 := h2) (h3 := h3) (k1 := k1) (k2 := k2) (k3 := k3) (tb := tb) (tf := tf) S W (by omega) (by omega) (by omega)) ?k1 ?k2 ?k3 ?k4 ?k5 ?kK ?kd ?ku ?_
  case k1 => k_asm
  case k2 => k_asm
  case k3 => k_asm
  case k4 => walk_at "fc pick"
  case k5 => k_asm
  case kK => first | exact rfl | assumption
  case kd => walk_at "fc room"
  case ku => walk_at "fc units"
  rintro r news' h' tk' F' N' ⟨rfl, arr', bv', fv', tb', tf', W', rfl⟩
  rw [bits_ones _ hq0] at W'
  have hl' : (bits ++ (List.replicate (n.fdiv (2 ^ c.toNat)).toNat 1 ++ [0])).length < 100000 := by simp; omega
  refine ⟨rfl, ?_⟩
  refine wpC_cons (wpC_Expr (wpC_CallMeth ?_))
  k_steps
  refine wpC_callWith (P := (FC.hd.heap_39 w.params).In) rfl (keeps_K (by k_is)) (wpC_of ?_)
  k_steps
  refine' specC_use (specC_write (h1 := h1) (h2 := h2) (h3 := h3) (k1 := k1) (k2 := k2) (k3 := k3) (tb := tb') (tf := tf') S W' (by omega) (by omega) (by omega)) ?k1 ?k2 ?k3 ?k4 ?k5 ?kK ?kd ?ku ?_
  case k1 => k_asm
  case k2 => k_asm
  case k3 => k_asm
  case k4 => walk_at "fc pick"
  case k5 => k_asm
  case kK => first | exact rfl | assumption
  case kd => walk_at "fc room"
  case ku => walk_at "fc units"
  rintro r news' h' tk' F' N' ⟨rfl, arr2, bv2, fv2, tb2, tf2, W2, rfl⟩
  refine ⟨rfl, ?_⟩
  dsimp only
  refine wpC_nil ?_
  refine leaveK_ (by k_asm) (by k_asm) ?_
  intro kF kN
  dsimp only
  refine hret _ _ _ _ kF kN ⟨rfl, arr2, bv2, fv2, tb2, tf2, ?_, rfl⟩
  rw [← List.append_assoc]
  exact W2
end
section
set_option maxRecDepth 100000
set_option maxHeartbeats 8000000
local macro_rules | `(tactic| walk_at "fc enter") => `(tactic| k_dflt (first
  | (refine' code_def ?k1 ?k2 ?k3 ?k4 ?k5 ?kA ?kF ?kK ?k6 ?k7 ?k8 ?k9 ?kB ?_ ?c2 ?c3 ?c4 ?c5; (case kA => exact rfl); (case kF => exact rfl); (case kK => first | exact rfl | assumption); (case k1 => k_asm); (case k2 => k_asm); (case k3 => k_asm); (case k4 => k_asm); (case k5 => k_asm); (case k6 => k_is); (case k7 => k_is); (case k8 => ktr_room); (case k9 => first | exact BindsTo.of_eq rfl | exact binds_K (by k_in) rfl (by k_is) rfl rfl rfl); (case c5 => decide); (case kB => exact locs rfl); (case c2 => exact rfl); (case c3 => exact rfl); (case c4 => exact rfl); k_whole; intro g' L' h' FG' F' N' B' X' T'; (try dsimp only); (try k_lift B'); (try k_fold))
  | (refine' code_defC ?k1 ?k2 ?k3 ?k4 ?k5 ?kA ?kF ?kK ?k6 ?k7 ?k8 ?k9 ?kB ?kD ?_ ?c2 ?c3 ?c4; (case kA => exact rfl); (case kF => exact rfl); (case kK => first | exact rfl | assumption); (case k1 => k_asm); (case k2 => k_asm); (case k3 => k_asm); (case k4 => k_asm); (case k5 => k_asm); (case k6 => k_is); (case k7 => k_is); (case k8 => ktr_room); (case k9 => first | exact BindsTo.of_eq rfl | exact binds_K (by k_in) rfl (by k_is) rfl rfl rfl); (case kB => exact rfl); (case kD => decide +kernel); (case c2 => exact rfl); (case c3 => exact rfl); (case c4 => exact rfl); k_whole; intro g' L' h' tk' cells' FG' F' N' Y' B' X' T' l1; (try k_lt l1); k_cells Y'; (try simp only [List.cons_append, List.nil_append] at N'); (try dsimp only); (try k_lift B'); (try k_fold))))
local macro_rules | `(tactic| walk_at "fc enterW") => `(tactic| k_dflt (
  (refine' code_defW ?k1 ?k2 ?k3 ?k4 ?k5 ?kA ?kF ?kK ?k6 ?k7 ?k8 ?k9 ?kB ?_ ?c2 ?c3 ?c4 ?c5; (case kA => exact rfl); (case kF => exact rfl); (case kK => first | exact rfl | assumption); (case k1 => k_asm); (case k2 => k_asm); (case k3 => k_asm); (case k4 => k_asm); (case k5 => k_asm); (case k6 => k_is); (case k7 => k_is); (case k8 => ktr_room); (case k9 => first | exact BindsTo.of_eq rfl | exact binds_K (by k_in) rfl (by k_is) rfl rfl rfl); (case c5 => decide); (case kB => exact locs rfl); (case c2 => exact rfl); (case c3 => exact rfl); (case c4 => exact rfl); k_whole; intro g' L' h' tk' FG' F' N' B' X' T' l1; (try k_lt l1); (try dsimp only); (try k_lift B'))))
local macro_rules | `(tactic| k_all) => `(tactic| exact off_of_lt (by with_reducible assumption))
local macro_rules | `(tactic| k_all) => `(tactic| with_reducible assumption)
local macro_rules | `(tactic| walk_at "fc sub") => `(tactic| (intro p9 h9; simp only [List.mem_cons, List.mem_append] at h9 ⊢; grind))
local macro_rules | `(tactic| walk_at "fc led") => `(tactic| first
  | exact List.forall_mem_nil _
  | (refine' List.forall_mem_cons.mpr ⟨?fa, ?fb⟩; (case fa => k_mem); (case fb => walk_at "fc led"))
  | (intro p9 h9; repeat (first | exact h9 | refine List.Mem.tail _ ?_)))
local macro_rules | `(tactic| walk_at "exec While") => `(tactic| (rename ParkWhile => z9; clear z9; refine Parked.go ?_))
local macro_rules | `(tactic| walk_at "exec Try") => `(tactic| (rename ParkTry => z9; clear z9; refine Parked.go ?_))
local macro_rules | `(tactic| walk_at "exec For") => `(tactic| (rename ParkFor => z9; clear z9; refine Parked.go ?_))
local macro_rules | `(tactic| walk_at "exec For Name Call") => `(tactic| (rename ParkFor => z9; clear z9; refine Parked.go ?_))
local macro_rules | `(tactic| walk_at "exec For Name Call cons nil") => `(tactic| (rename ParkFor => z9; clear z9; refine Parked.go ?_))
local macro_rules | `(tactic| walk_at "exec For Name Name") => `(tactic| (rename ParkFor => z9; clear z9; refine Parked.go ?_))
local macro_rules | `(tactic| walk_at "exec For Name Name cons nil") => `(tactic| (rename ParkFor => z9; clear z9; refine Parked.go ?_))
local macro_rules | `(tactic| walk_at "exec For Name List cons nil") => `(tactic| (rename ParkFor => z9; clear z9; refine Parked.go ?_))
local macro_rules | `(tactic| walk_at "fc pick") => `(tactic| first | k_asm | (rename News _ _ _ _ => z9; exact cb_drop z9 (by walk_at "fc led")))
local macro_rules | `(tactic| walk_at "fc room") => `(tactic| first | omega | ((try simp only [depth_under_make, depth_under_kw, depth_in1, depth_deeper, depth_caller]); (try dsimp only [ktrTop]); omega) | ktr_room)
local macro_rules | `(tactic| walk_at "fc units") => `(tactic| first | omega | (have hcL9 := cLine_is; (try simp only [units_in1, units_deeper, Around.mark_units, units_caller]); (try dsimp only [ktrTop]); omega) | ktr_units)

theorem bits_rangeKs (n c : Int) : (rangeKs 0 (c - 0).toNat).map (fun k' => (n.fdiv (2 ^ (c - 1 - k').toNat)).fmod 2) = bitsOf n c := by
  unfold bitsOf bitsN rangeKs
  rw [List.map_map, Int.sub_zero]
  apply List.map_congr_left
  intro i _
  show (n.fdiv (2 ^ (c - 1 - (0 + (i : Int))).toNat)).fmod 2 = bitAt n c i
  unfold bitAt
  rw [Int.zero_add]
theorem spec_bits {w : World} {mean : ExcName → Option Value} {mg mb : Str → Option Value} {news : List (Addr × Obj)} {n c : Int} {t u : Tok} (h0 : 0 ≤ c) (h1 : c < 40) :
    Spec w mean mg mb 204 [.int n t, .int c u] news 10 100 (fun r news' => ∃ D ys cap, r = .ref D ∧ IntsAre ys (bitsOf n c) ∧ (∀ p ∈ news, p.1 ≠ D) ∧ news' = (D, listOf ys.toArray cap) :: news) := by
  unfold Spec
  k_fill
  intro dp un gd cn cs a ccd cl outer A₀ base h₀ L m s Q E B F X N T hk hd hu hret
  refine wpAny_call ?_
  walk_at "fc enter"
  k_steps
  rename (IntsAre _ _) => hI
  rename (_ ∧ _ ∧ LCg.Off1 _ _) => hO
  rw [bits_rangeKs] at hI
  rename News h₀ L _ _ => kN
  rename Fr h₀ L _ m => kF
  exact hret _ _ _ _ kF (cb_drop (news := (_, listOf _ _) :: news) kN (by walk_at "fc led")) ⟨_, _, _, rfl, hI, off1_all hO.2.2, rfl⟩
end
section
local macro_rules | `(tactic| walk_at "fc nil") => `(tactic| fail "none")
set_option maxRecDepth 100000
set_option maxHeartbeats 8000000
local macro_rules | `(tactic| walk_at "fc enter") => `(tactic| k_dflt (first
  | (refine' code_def ?k1 ?k2 ?k3 ?k4 ?k5 ?kA ?kF ?kK ?k6 ?k7 ?k8 ?k9 ?kB ?_ ?c2 ?c3 ?c4 ?c5; (case kA => exact rfl); (case kF => exact rfl); (case kK => first | exact rfl | assumption); (case k1 => k_asm); (case k2 => k_asm); (case k3 => k_asm); (case k4 => k_asm); (case k5 => k_asm); (case k6 => k_is); (case k7 => k_is); (case k8 => ktr_room); (case k9 => first | exact BindsTo.of_eq rfl | exact binds_K (by k_in) rfl (by k_is) rfl rfl rfl); (case c5 => decide); (case kB => exact locs rfl); (case c2 => exact rfl); (case c3 => exact rfl); (case c4 => exact rfl); k_whole; intro g' L' h' FG' F' N' B' X' T'; (try dsimp only); (try k_lift B'); (try k_fold))
  | (refine' code_defC ?k1 ?k2 ?k3 ?k4 ?k5 ?kA ?kF ?kK ?k6 ?k7 ?k8 ?k9 ?kB ?kD ?_ ?c2 ?c3 ?c4; (case kA => exact rfl); (case kF => exact rfl); (case kK => first | exact rfl | assumption); (case k1 => k_asm); (case k2 => k_asm); (case k3 => k_asm); (case k4 => k_asm); (case k5 => k_asm); (case k6 => k_is); (case k7 => k_is); (case k8 => ktr_room); (case k9 => first | exact BindsTo.of_eq rfl | exact binds_K (by k_in) rfl (by k_is) rfl rfl rfl); (case kB => exact rfl); (case kD => decide +kernel); (case c2 => exact rfl); (case c3 => exact rfl); (case c4 => exact rfl); k_whole; intro g' L' h' tk' cells' FG' F' N' Y' B' X' T' l1; (try k_lt l1); k_cells Y'; (try simp only [List.cons_append, List.nil_append] at N'); (try dsimp only); (try k_lift B'); (try k_fold))))
local macro_rules | `(tactic| walk_at "fc enterW") => `(tactic| k_dflt (
  (refine' code_defW ?k1 ?k2 ?k3 ?k4 ?k5 ?kA ?kF ?kK ?k6 ?k7 ?k8 ?k9 ?kB ?_ ?c2 ?c3 ?c4 ?c5; (case kA => exact rfl); (case kF => exact rfl); (case kK => first | exact rfl | assumption); (case k1 => k_asm); (case k2 => k_asm); (case k3 => k_asm); (case k4 => k_asm); (case k5 => k_asm); (case k6 => k_is); (case k7 => k_is); (case k8 => ktr_room); (case k9 => first | exact BindsTo.of_eq rfl | exact binds_K (by k_in) rfl (by k_is) rfl rfl rfl); (case c5 => decide); (case kB => exact locs rfl); (case c2 => exact rfl); (case c3 => exact rfl); (case c4 => exact rfl); k_whole; intro g' L' h' tk' FG' F' N' B' X' T' l1; (try k_lt l1); (try dsimp only); (try k_lift B'))))
local macro_rules | `(tactic| k_all) => `(tactic| exact off_of_lt (by with_reducible assumption))
local macro_rules | `(tactic| k_all) => `(tactic| with_reducible assumption)
local macro_rules | `(tactic| walk_at "fc sub") => `(tactic| (intro p9 h9; simp only [List.mem_cons, List.mem_append] at h9 ⊢; grind))
local macro_rules | `(tactic| walk_at "fc led") => `(tactic| first
  | exact List.forall_mem_nil _
  | (refine' List.forall_mem_cons.mpr ⟨?fa, ?fb⟩; (case fa => k_mem); (case fb => walk_at "fc led"))
  | (intro p9 h9; repeat (first | exact h9 | refine List.Mem.tail _ ?_)))
local macro_rules | `(tactic| walk_at "exec While") => `(tactic| (rename ParkWhile => z9; clear z9; refine Parked.go ?_))
local macro_rules | `(tactic| walk_at "exec Try") => `(tactic| (rename ParkTry => z9; clear z9; refine Parked.go ?_))
local macro_rules | `(tactic| walk_at "exec For") => `(tactic| (rename ParkFor => z9; clear z9; refine Parked.go ?_))
local macro_rules | `(tactic| walk_at "exec For Name Call") => `(tactic| (rename ParkFor => z9; clear z9; refine Parked.go ?_))
local macro_rules | `(tactic| walk_at "exec For Name Call cons nil") => `(tactic| (rename ParkFor => z9; clear z9; refine Parked.go ?_))
local macro_rules | `(tactic| walk_at "exec For Name Name") => `(tactic| (rename ParkFor => z9; clear z9; refine Parked.go ?_))
local macro_rules | `(tactic| walk_at "exec For Name Name cons nil") => `(tactic| (rename ParkFor => z9; clear z9; refine Parked.go ?_))
local macro_rules | `(tactic| walk_at "exec For Name List cons nil") => `(tactic| (rename ParkFor => z9; clear z9; refine Parked.go ?_))
local macro_rules | `(tactic| walk_at "fc pick") => `(tactic| first | k_asm | (rename News _ _ _ _ => z9; exact cb_drop z9 (by walk_at "fc led")))
local macro_rules | `(tactic| walk_at "fc room") => `(tactic| first | omega | ((try simp only [depth_under_make, depth_under_kw, depth_in1, depth_deeper, depth_caller]); (try dsimp only [ktrTop]); omega) | ktr_room)
local macro_rules | `(tactic| walk_at "fc units") => `(tactic| first | omega | (have hcL9 := cLine_is; (try simp only [units_in1, units_deeper, Around.mark_units, units_caller]); (try dsimp only [ktrTop]); omega) | ktr_units)

theorem num_pairs (bits : List Int) (a : Int) : (bits.foldl (fun (σ : Int × Unit) n => (2 * σ.1 + n, ())) (a, ())).1 = bits.foldl (fun a b => 2 * a + b) a := by
  induction bits generalizing a with
  | nil => rfl
  | cons b r ih => rw [List.foldl_cons, List.foldl_cons, ih]
theorem spec_number {w : World} {mean : ExcName → Option Value} {mg mb : Str → Option Value} {news : List (Addr × Obj)} {l : Addr} {cap : Nat} {ys : List Value} {bits : List Int} (hys : IntsAre ys bits) :
    Spec w mean mg mb 246 [.ref l] ((l, listOf ys.toArray cap) :: news) 10 100 (fun r news' => ∃ t, r = .int (num bits) t ∧ news' = (l, listOf ys.toArray cap) :: news) := by
  unfold Spec
  k_fill
  intro dp un gd cn cs a ccd cl outer A₀ base h₀ L m s Q E B F X N T hk hd hu hret
  refine wpAny_call ?_
  walk_at "fc enter"
  k_steps
  rename News h₀ L _ _ => kN
  rename Fr h₀ L _ m => kF
  exact hret _ _ _ _ kF kN (Exists.intro _ (And.intro (congrArg (fun z => Value.int z _) (num_pairs bits 0)) rfl))
end
section
set_option maxRecDepth 100000
set_option maxHeartbeats 8000000
local macro_rules | `(tactic| walk_at "fc enter") => `(tactic| k_dflt (first
  | (refine' code_def ?k1 ?k2 ?k3 ?k4 ?k5 ?kA ?kF ?kK ?k6 ?k7 ?k8 ?k9 ?kB ?_ ?c2 ?c3 ?c4 ?c5; (case kA => exact rfl); (case kF => exact rfl); (case kK => first | exact rfl | assumption); (case k1 => k_asm); (case k2 => k_asm); (case k3 => k_asm); (case k4 => k_asm); (case k5 => k_asm); (case k6 => k_is); (case k7 => k_is); (case k8 => ktr_room); (case k9 => first | exact BindsTo.of_eq rfl | exact binds_K (by k_in) rfl (by k_is) rfl rfl rfl); (case c5 => decide); (case kB => exact locs rfl); (case c2 => exact rfl); (case c3 => exact rfl); (case c4 => exact rfl); k_whole; intro g' L' h' FG' F' N' B' X' T'; (try dsimp only); (try k_lift B'); (try k_fold))
  | (refine' code_defC ?k1 ?k2 ?k3 ?k4 ?k5 ?kA ?kF ?kK ?k6 ?k7 ?k8 ?k9 ?kB ?kD ?_ ?c2 ?c3 ?c4; (case kA => exact rfl); (case kF => exact rfl); (case kK => first | exact rfl | assumption); (case k1 => k_asm); (case k2 => k_asm); (case k3 => k_asm); (case k4 => k_asm); (case k5 => k_asm); (case k6 => k_is); (case k7 => k_is); (case k8 => ktr_room); (case k9 => first | exact BindsTo.of_eq rfl | exact binds_K (by k_in) rfl (by k_is) rfl rfl rfl); (case kB => exact rfl); (case kD => decide +kernel); (case c2 => exact rfl); (case c3 => exact rfl); (case c4 => exact rfl); k_whole; intro g' L' h' tk' cells' FG' F' N' Y' B' X' T' l1; (try k_lt l1); k_cells Y'; (try simp only [List.cons_append, List.nil_append] at N'); (try dsimp only); (try k_lift B'); (try k_fold))))
local macro_rules | `(tactic| walk_at "fc enterW") => `(tactic| k_dflt (
  (refine' code_defW ?k1 ?k2 ?k3 ?k4 ?k5 ?kA ?kF ?kK ?k6 ?k7 ?k8 ?k9 ?kB ?_ ?c2 ?c3 ?c4 ?c5; (case kA => exact rfl); (case kF => exact rfl); (case kK => first | exact rfl | assumption); (case k1 => k_asm); (case k2 => k_asm); (case k3 => k_asm); (case k4 => k_asm); (case k5 => k_asm); (case k6 => k_is); (case k7 => k_is); (case k8 => ktr_room); (case k9 => first | exact BindsTo.of_eq rfl | exact binds_K (by k_in) rfl (by k_is) rfl rfl rfl); (case c5 => decide); (case kB => exact locs rfl); (case c2 => exact rfl); (case c3 => exact rfl); (case c4 => exact rfl); k_whole; intro g' L' h' tk' FG' F' N' B' X' T' l1; (try k_lt l1); (try dsimp only); (try k_lift B'))))
local macro_rules | `(tactic| k_all) => `(tactic| exact off_of_lt (by with_reducible assumption))
local macro_rules | `(tactic| k_all) => `(tactic| with_reducible assumption)
local macro_rules | `(tactic| walk_at "fc sub") => `(tactic| (intro p9 h9; simp only [List.mem_cons, List.mem_append] at h9 ⊢; grind))
local macro_rules | `(tactic| walk_at "fc led") => `(tactic| first
  | exact List.forall_mem_nil _
  | (refine' List.forall_mem_cons.mpr ⟨?fa, ?fb⟩; (case fa => k_mem); (case fb => walk_at "fc led"))
  | (intro p9 h9; repeat (first | exact h9 | refine List.Mem.tail _ ?_)))
local macro_rules | `(tactic| walk_at "exec While") => `(tactic| (rename ParkWhile => z9; clear z9; refine Parked.go ?_))
local macro_rules | `(tactic| walk_at "exec Try") => `(tactic| (rename ParkTry => z9; clear z9; refine Parked.go ?_))
local macro_rules | `(tactic| walk_at "exec For") => `(tactic| (rename ParkFor => z9; clear z9; refine Parked.go ?_))
local macro_rules | `(tactic| walk_at "exec For Name Call") => `(tactic| (rename ParkFor => z9; clear z9; refine Parked.go ?_))
local macro_rules | `(tactic| walk_at "exec For Name Call cons nil") => `(tactic| (rename ParkFor => z9; clear z9; refine Parked.go ?_))
local macro_rules | `(tactic| walk_at "exec For Name Name") => `(tactic| (rename ParkFor => z9; clear z9; refine Parked.go ?_))
local macro_rules | `(tactic| walk_at "exec For Name Name cons nil") => `(tactic| (rename ParkFor => z9; clear z9; refine Parked.go ?_))
local macro_rules | `(tactic| walk_at "exec For Name List cons nil") => `(tactic| (rename ParkFor => z9; clear z9; refine Parked.go ?_))
local macro_rules | `(tactic| walk_at "fc pick") => `(tactic| first | k_asm | (rename News _ _ _ _ => z9; exact cb_drop z9 (by walk_at "fc led")))
local macro_rules | `(tactic| walk_at "fc room") => `(tactic| first | omega | ((try simp only [depth_under_make, depth_under_kw, depth_in1, depth_deeper, depth_caller]); (try dsimp only [ktrTop]); omega) | ktr_room)
local macro_rules | `(tactic| walk_at "fc units") => `(tactic| first | omega | (have hcL9 := cLine_is; (try simp only [units_in1, units_deeper, Around.mark_units, units_caller]); (try dsimp only [ktrTop]); omega) | ktr_units)

theorem flat_ones (q : Nat) : (List.replicate q [(1 : Int)]).flatten = List.replicate q 1 := by
  induction q with
  | zero => rfl
  | succ q ih => rw [List.replicate_succ, List.flatten_cons, ih]; rfl
theorem spec_coded {w : World} {mean : ExcName → Option Value} {mg mb : Str → Option Value} {news : List (Addr × Obj)} {n c : Int} {t u : Tok} (h0 : 0 ≤ c) (h1 : c < 40) (hq0 : 0 ≤ n.fdiv (2 ^ c.toNat)) (hq : n.fdiv (2 ^ c.toNat) < 1000) :
    Spec w mean mg mb 211 [.int n t, .int c u] news 20 200 (fun r news' => ∃ D ys cap, r = .ref D ∧ IntsAre ys (List.replicate (n.fdiv (2 ^ c.toNat)).toNat 1 ++ [0] ++ bitsOf n c) ∧ (∀ p ∈ news, p.1 ≠ D) ∧ news' = (D, listOf ys.toArray cap) :: news) := by
  unfold Spec
  k_fill
  intro dp un gd cn cs a ccd cl outer A₀ base h₀ L m s Q E B F X N T hk hd hu hret
  refine wpAny_call ?_
  walk_at "fc enter"
  k_steps
  refine' spec_use (spec_bits h0 h1) ?k1 ?k2 ?k3 ?k4 ?k5 ?kK ?kd ?ku ?_
  case k1 => k_asm
  case k2 => k_asm
  case k3 => k_asm
  case k4 => walk_at "fc pick"
  case k5 => k_asm
  case kK => first | exact rfl | assumption
  case kd => walk_at "fc room"
  case ku => walk_at "fc units"
  rintro r news' h' tk' F' N' ⟨D, ys, cap, rfl, hI, hO, rfl⟩
  have hl1 : (bitsOf n c).length < 40 := by rw [bitsOf_length]; omega
  k_steps
  rename (_ ∧ _ ∧ _ ∧ _ ∧ _ ∧ AllLt _ _) => l9
  rename IntsAre _ (_ ++ bitsOf n c) => hI9
  rename News h₀ L _ _ => kN
  rename Fr h₀ L _ m => kF
  rw [flat_ones] at hI9
  exact hret _ _ _ _ kF (cb_drop (news := (_, listOf _ 0) :: news) kN (by walk_at "fc led")) ⟨_, _, _, rfl, hI9, fun p hp => Nat.ne_of_lt (ktn_ltOf l9.2.2.2.2.2 p hp), rfl⟩
end
section
local macro_rules | `(tactic| walk_at "fc nil") => `(tactic| fail "none")
set_option maxRecDepth 100000
set_option maxHeartbeats 8000000
local macro_rules | `(tactic| walk_at "fc enter") => `(tactic| k_dflt (first
  | (refine' code_def ?k1 ?k2 ?k3 ?k4 ?k5 ?kA ?kF ?kK ?k6 ?k7 ?k8 ?k9 ?kB ?_ ?c2 ?c3 ?c4 ?c5; (case kA => exact rfl); (case kF => exact rfl); (case kK => first | exact rfl | assumption); (case k1 => k_asm); (case k2 => k_asm); (case k3 => k_asm); (case k4 => k_asm); (case k5 => k_asm); (case k6 => k_is); (case k7 => k_is); (case k8 => ktr_room); (case k9 => first | exact BindsTo.of_eq rfl | exact binds_K (by k_in) rfl (by k_is) rfl rfl rfl); (case c5 => decide); (case kB => exact locs rfl); (case c2 => exact rfl); (case c3 => exact rfl); (case c4 => exact rfl); k_whole; intro g' L' h' FG' F' N' B' X' T'; (try dsimp only); (try k_lift B'); (try k_fold))
  | (refine' code_defC ?k1 ?k2 ?k3 ?k4 ?k5 ?kA ?kF ?kK ?k6 ?k7 ?k8 ?k9 ?kB ?kD ?_ ?c2 ?c3 ?c4; (case kA => exact rfl); (case kF => exact rfl); (case kK => first | exact rfl | assumption); (case k1 => k_asm); (case k2 => k_asm); (case k3 => k_asm); (case k4 => k_asm); (case k5 => k_asm); (case k6 => k_is); (case k7 => k_is); (case k8 => ktr_room); (case k9 => first | exact BindsTo.of_eq rfl | exact binds_K (by k_in) rfl (by k_is) rfl rfl rfl); (case kB => exact rfl); (case kD => decide +kernel); (case c2 => exact rfl); (case c3 => exact rfl); (case c4 => exact rfl); k_whole; intro g' L' h' tk' cells' FG' F' N' Y' B' X' T' l1; (try k_lt l1); k_cells Y'; (try simp only [List.cons_append, List.nil_append] at N'); (try dsimp only); (try k_lift B'); (try k_fold))))
local macro_rules | `(tactic| walk_at "fc enterW") => `(tactic| k_dflt (
  (refine' code_defW ?k1 ?k2 ?k3 ?k4 ?k5 ?kA ?kF ?kK ?k6 ?k7 ?k8 ?k9 ?kB ?_ ?c2 ?c3 ?c4 ?c5; (case kA => exact rfl); (case kF => exact rfl); (case kK => first | exact rfl | assumption); (case k1 => k_asm); (case k2 => k_asm); (case k3 => k_asm); (case k4 => k_asm); (case k5 => k_asm); (case k6 => k_is); (case k7 => k_is); (case k8 => ktr_room); (case k9 => first | exact BindsTo.of_eq rfl | exact binds_K (by k_in) rfl (by k_is) rfl rfl rfl); (case c5 => decide); (case kB => exact locs rfl); (case c2 => exact rfl); (case c3 => exact rfl); (case c4 => exact rfl); k_whole; intro g' L' h' tk' FG' F' N' B' X' T' l1; (try k_lt l1); (try dsimp only); (try k_lift B'))))
local macro_rules | `(tactic| k_all) => `(tactic| exact off_of_lt (by with_reducible assumption))
local macro_rules | `(tactic| k_all) => `(tactic| with_reducible assumption)
local macro_rules | `(tactic| walk_at "fc sub") => `(tactic| (intro p9 h9; simp only [List.mem_cons, List.mem_append] at h9 ⊢; grind))
local macro_rules | `(tactic| walk_at "fc led") => `(tactic| first
  | exact List.forall_mem_nil _
  | (refine' List.forall_mem_cons.mpr ⟨?fa, ?fb⟩; (case fa => k_mem); (case fb => walk_at "fc led"))
  | (intro p9 h9; repeat (first | exact h9 | refine List.Mem.tail _ ?_)))
local macro_rules | `(tactic| walk_at "exec While") => `(tactic| (rename ParkWhile => z9; clear z9; refine Parked.go ?_))
local macro_rules | `(tactic| walk_at "exec Try") => `(tactic| (rename ParkTry => z9; clear z9; refine Parked.go ?_))
local macro_rules | `(tactic| walk_at "exec For") => `(tactic| (rename ParkFor => z9; clear z9; refine Parked.go ?_))
local macro_rules | `(tactic| walk_at "exec For Name Call") => `(tactic| (rename ParkFor => z9; clear z9; refine Parked.go ?_))
local macro_rules | `(tactic| walk_at "exec For Name Call cons nil") => `(tactic| (rename ParkFor => z9; clear z9; refine Parked.go ?_))
local macro_rules | `(tactic| walk_at "exec For Name Name") => `(tactic| (rename ParkFor => z9; clear z9; refine Parked.go ?_))
local macro_rules | `(tactic| walk_at "exec For Name Name cons nil") => `(tactic| (rename ParkFor => z9; clear z9; refine Parked.go ?_))
local macro_rules | `(tactic| walk_at "exec For Name List cons nil") => `(tactic| (rename ParkFor => z9; clear z9; refine Parked.go ?_))
local macro_rules | `(tactic| walk_at "fc pick") => `(tactic| first | k_asm | (rename News _ _ _ _ => z9; exact cb_drop z9 (by walk_at "fc led")))
local macro_rules | `(tactic| walk_at "fc room") => `(tactic| first | omega | ((try simp only [depth_under_make, depth_under_kw, depth_in1, depth_deeper, depth_caller]); (try dsimp only [ktrTop]); omega) | ktr_room)
local macro_rules | `(tactic| walk_at "fc units") => `(tactic| first | omega | (have hcL9 := cLine_is; (try simp only [units_in1, units_deeper, Around.mark_units, units_caller]); (try dsimp only [ktrTop]); omega) | ktr_units)

/-- noughts behind a row, up to a whole octet -/
def fillN (n : Nat) : Nat := (8 - n % 8) % 8
theorem spec_fill {w : World} {mean : ExcName → Option Value} {mg mb : Str → Option Value} {news : List (Addr × Obj)} {l : Addr} {cap : Nat} {ys : List Value} {bits : List Int} (hys : IntsAre ys bits) (hz : bits.length < 100000) (hoff : ∀ p ∈ news, p.1 ≠ l) :
    Spec w mean mg mb 225 [.ref l] ((l, listOf ys.toArray cap) :: news) 10 100 (fun r news' => r = .none ∧ ∃ ys' cap', IntsAre ys' (bits ++ List.replicate (fillN bits.length) 0) ∧ news' = (l, listOf ys'.toArray cap') :: news) := by
  unfold Spec
  k_fill
  intro dp un gd cn cs a ccd cl outer A₀ base h₀ L m s Q E B F X N T hk hd hu hret
  refine wpAny_call ?_
  walk_at "fc enter"
  have parkW : ParkWhile := trivial
  k_steps
  refine While_inv (L := _) (n₀ := fillN bits.length) (fun n m' news' => (m' = _) ∧ ∃ ys' k cap', n + k = fillN bits.length ∧ IntsAre ys' (bits ++ List.replicate k 0) ∧ news' = (l, listOf ys'.toArray cap') :: news) (by k_asm) (by k_asm) ⟨rfl, ys, 0, cap, rfl, by simpa using hys, rfl⟩ ?_
  rintro n m₁ news₁ h₁ tk₁ F₁ N₁ ⟨rfl, ys', k, cap', hk', hys', rfl⟩
  have hkk : k ≤ 8 := by unfold fillN at hk'; omega
  have hmod : (bits.length + k) % 8 = 0 ↔ n = 0 := by unfold fillN at hk'; omega
  obtain ⟨bs, hbs⟩ : ∃ bs, bs = bits ++ List.replicate k 0 := ⟨_, rfl⟩
  rw [← hbs] at hys'
  have hlb : bs.length = bits.length + k := by rw [hbs]; simp
  have hzb : bs.length < 100100 := by omega
  k_steps
  · rename (_ ≠ (0 : Int)) => hne
    rename News _ _ _ _ => N2
    rename Fr _ _ _ _ => F2
    rw [List.push_toArray] at N2
    rw [Int.fmod_eq_emod_of_nonneg _ (by decide)] at hne
    have hn0 : n ≠ 0 := fun e => by have := hmod.mpr e; omega
    refine WhileStep.intro (n' := n - 1) F2 (cb_drop (news := (l, listOf _ _) :: news) N2 (by walk_at "fc led")) (by omega) ⟨rfl, _, k + 1, _, by omega, ?_, rfl⟩
    rw [List.replicate_succ', ← List.append_assoc, ← hbs]
    exact ksk_snoc hys'
  · rename (_ = (0 : Int)) => he
    rw [Int.fmod_eq_emod_of_nonneg _ (by decide)] at he
    have hn0 : n = 0 := hmod.mp (by omega)
    rename News h₀ L _ _ => kN
    rename Fr h₀ L _ m => kF
    refine hret _ _ _ _ kF kN ⟨rfl, ys', _, ?_, rfl⟩
    have e : fillN bits.length = k := by omega
    rw [e, ← hbs]
    exact hys'
/-- a list is made longer by another -/
theorem extendHead {prog : Program} {w : World} {A : Around} {E : Value → Shared → Prop} {s : Shared} {h₀ : Heap} {L D b : Addr} {m : Str → Option Value} {rest : List (Addr × Obj)} {xs zs : List Value} {n n2 : Nat} {Q : Value → Shared → Prop}
    (F : Fr h₀ L s.heap m) (N : News h₀ L s.heap ((D, listOf xs.toArray n) :: rest)) (hb : (b, listOf zs.toArray n2) ∈ rest) (off : ∀ p ∈ rest, p.1 ≠ D) (hz : xs.length + zs.length ≤ 1000000)
    (h : ∀ h' n', Fr h₀ L h' m → News h₀ L h' ((D, listOf (xs ++ zs).toArray n') :: rest) → Q .none { s with heap := h' }) : wpAny (model prog w) A (call (.builtin "list.extend") [.ref D, .ref b]) Q E s := by
  have hd : ¬(!xs.toArray.isEmpty && Builtin.List.listTooLong (xs.toArray.size + zs.toArray.size)) = true := by
    simp [Builtin.List.listTooLong, sizeLine_eq]
    intro _
    omega
  have s1 : xs.toArray.toList.length ≤ sizeLine := by rw [sizeLine_eq]; simp; omega
  have s2 : xs.toArray.size + zs.toArray.size ≤ sizeLine + 1 := by rw [sizeLine_eq]; simp; omega
  by_cases hz0 : zs = []
  · subst hz0
    refine kxn_extend F N (.tail _ hb) rfl (Upd.head off) hd s1 s2 fun h' F' N' => h h' n F' ?_
    rw [List.append_nil]; exact N'
  · exact kl_extend F N (.tail _ hb) (l := xs ++ zs) (by simp) (by simpa using hz0) (Upd.head off) hd s1 s2 fun h' F' N' => h h' _ F' N'
end
section
set_option maxRecDepth 100000
set_option maxHeartbeats 8000000
local macro_rules | `(tactic| walk_at "fc enter") => `(tactic| k_dflt (first
  | (refine' code_def ?k1 ?k2 ?k3 ?k4 ?k5 ?kA ?kF ?kK ?k6 ?k7 ?k8 ?k9 ?kB ?_ ?c2 ?c3 ?c4 ?c5; (case kA => exact rfl); (case kF => exact rfl); (case kK => first | exact rfl | assumption); (case k1 => k_asm); (case k2 => k_asm); (case k3 => k_asm); (case k4 => k_asm); (case k5 => k_asm); (case k6 => k_is); (case k7 => k_is); (case k8 => ktr_room); (case k9 => first | exact BindsTo.of_eq rfl | exact binds_K (by k_in) rfl (by k_is) rfl rfl rfl); (case c5 => decide); (case kB => exact locs rfl); (case c2 => exact rfl); (case c3 => exact rfl); (case c4 => exact rfl); k_whole; intro g' L' h' FG' F' N' B' X' T'; (try dsimp only); (try k_lift B'); (try k_fold))
  | (refine' code_defC ?k1 ?k2 ?k3 ?k4 ?k5 ?kA ?kF ?kK ?k6 ?k7 ?k8 ?k9 ?kB ?kD ?_ ?c2 ?c3 ?c4; (case kA => exact rfl); (case kF => exact rfl); (case kK => first | exact rfl | assumption); (case k1 => k_asm); (case k2 => k_asm); (case k3 => k_asm); (case k4 => k_asm); (case k5 => k_asm); (case k6 => k_is); (case k7 => k_is); (case k8 => ktr_room); (case k9 => first | exact BindsTo.of_eq rfl | exact binds_K (by k_in) rfl (by k_is) rfl rfl rfl); (case kB => exact rfl); (case kD => decide +kernel); (case c2 => exact rfl); (case c3 => exact rfl); (case c4 => exact rfl); k_whole; intro g' L' h' tk' cells' FG' F' N' Y' B' X' T' l1; (try k_lt l1); k_cells Y'; (try simp only [List.cons_append, List.nil_append] at N'); (try dsimp only); (try k_lift B'); (try k_fold))))
local macro_rules | `(tactic| walk_at "fc enterW") => `(tactic| k_dflt (
  (refine' code_defW ?k1 ?k2 ?k3 ?k4 ?k5 ?kA ?kF ?kK ?k6 ?k7 ?k8 ?k9 ?kB ?_ ?c2 ?c3 ?c4 ?c5; (case kA => exact rfl); (case kF => exact rfl); (case kK => first | exact rfl | assumption); (case k1 => k_asm); (case k2 => k_asm); (case k3 => k_asm); (case k4 => k_asm); (case k5 => k_asm); (case k6 => k_is); (case k7 => k_is); (case k8 => ktr_room); (case k9 => first | exact BindsTo.of_eq rfl | exact binds_K (by k_in) rfl (by k_is) rfl rfl rfl); (case c5 => decide); (case kB => exact locs rfl); (case c2 => exact rfl); (case c3 => exact rfl); (case c4 => exact rfl); k_whole; intro g' L' h' tk' FG' F' N' B' X' T' l1; (try k_lt l1); (try dsimp only); (try k_lift B'))))
local macro_rules | `(tactic| k_all) => `(tactic| exact off_of_lt (by with_reducible assumption))
local macro_rules | `(tactic| k_all) => `(tactic| with_reducible assumption)
local macro_rules | `(tactic| walk_at "fc sub") => `(tactic| (intro p9 h9; simp only [List.mem_cons, List.mem_append] at h9 ⊢; grind))
local macro_rules | `(tactic| walk_at "fc led") => `(tactic| first
  | exact List.forall_mem_nil _
  | (refine' List.forall_mem_cons.mpr ⟨?fa, ?fb⟩; (case fa => k_mem); (case fb => walk_at "fc led"))
  | (intro p9 h9; repeat (first | exact h9 | refine List.Mem.tail _ ?_)))
local macro_rules | `(tactic| walk_at "exec While") => `(tactic| (rename ParkWhile => z9; clear z9; refine Parked.go ?_))
local macro_rules | `(tactic| walk_at "exec Try") => `(tactic| (rename ParkTry => z9; clear z9; refine Parked.go ?_))
local macro_rules | `(tactic| walk_at "exec For") => `(tactic| (rename ParkFor => z9; clear z9; refine Parked.go ?_))
local macro_rules | `(tactic| walk_at "exec For Name Call") => `(tactic| (rename ParkFor => z9; clear z9; refine Parked.go ?_))
local macro_rules | `(tactic| walk_at "exec For Name Call cons nil") => `(tactic| (rename ParkFor => z9; clear z9; refine Parked.go ?_))
local macro_rules | `(tactic| walk_at "exec For Name Name") => `(tactic| (rename ParkFor => z9; clear z9; refine Parked.go ?_))
local macro_rules | `(tactic| walk_at "exec For Name Name cons nil") => `(tactic| (rename ParkFor => z9; clear z9; refine Parked.go ?_))
local macro_rules | `(tactic| walk_at "exec For Name List cons nil") => `(tactic| (rename ParkFor => z9; clear z9; refine Parked.go ?_))
local macro_rules | `(tactic| walk_at "fc pick") => `(tactic| first | k_asm | (rename News _ _ _ _ => z9; exact cb_drop z9 (by walk_at "fc led")))
local macro_rules | `(tactic| walk_at "fc room") => `(tactic| first | omega | ((try simp only [depth_under_make, depth_under_kw, depth_in1, depth_deeper, depth_caller]); (try dsimp only [ktrTop]); omega) | ktr_room)
local macro_rules | `(tactic| walk_at "fc units") => `(tactic| first | omega | (have hcL9 := cLine_is; (try simp only [units_in1, units_deeper, Around.mark_units, units_caller]); (try dsimp only [ktrTop]); omega) | ktr_units)

theorem intsAre_get {vs : List Value} {ns : List Int} (h : IntsAre vs ns) {i : Nat} (hi : i < ns.length) : ∃ t, vs[i]? = some (.int (ns.getD i 0) t) := by
  induction h generalizing i with
  | nil => simp at hi
  | cons n t h ih =>
    cases i with
    | zero => exact ⟨t, rfl⟩
    | succ i => simpa using ih (by simpa using hi)
theorem small_up8 {c : Int} (h0 : 0 ≤ c) (h1 : c < 2 ^ 40) : Builtin.Range.small 0 c 8 = true := by
  have e : Builtin.Range.rangeSize 0 c 8 = (c + 7) / 8 := by
    unfold Builtin.Range.rangeSize
    rw [if_pos (by decide)]
    by_cases h : 0 < c
    · rw [if_pos h]; omega
    · rw [if_neg h]; omega
  unfold Builtin.Range.small Builtin.Range.rangeFitsLong
  rw [e]
  rw [if_pos (show (8 : Int) > 0 by decide)]
  simp only [Bool.and_eq_true, Bool.or_eq_true, decide_eq_true_eq, beq_iff_eq]
  refine ⟨⟨⟨⟨?_, ?_⟩, ?_⟩, ?_⟩, .inr ?_⟩ <;> first | omega | decide | (constructor <;> omega)
theorem size_up8 (c : Nat) : Builtin.Range.rangeSize 0 (c : Int) 8 = (((c + 7) / 8 : Nat) : Int) := by
  unfold Builtin.Range.rangeSize
  rw [if_pos (by decide)]
  by_cases h : 0 < (c : Int)
  · rw [if_pos h]; omega
  · rw [if_neg h]; omega
/-- the octet's number after j of its bits -/
def octN (bits : List Int) (k j : Nat) : Int := num ((List.range j).map fun j => bits.getD (8 * k + j) 0)
theorem octN_succ (bits : List Int) (k j : Nat) : octN bits k (j + 1) = 2 * octN bits k j + bits.getD (8 * k + j) 0 := by
  unfold octN
  rw [List.range_succ, List.map_append, List.map_singleton, num_snoc]
theorem octAt_byte {bits : List Int} (hb : IsBits bits) {k : Nat} : ∀ n ∈ (List.range k).map (octAt bits), 0 ≤ n ∧ n < 256 := by
  intro n hn
  obtain ⟨i, _, rfl⟩ := List.mem_map.mp hn
  have h : IsBits ((List.range 8).map fun j => bits.getD (8 * i + j) 0) := by
    intro b hb'
    obtain ⟨j, _, rfl⟩ := List.mem_map.mp hb'
    by_cases hj : 8 * i + j < bits.length
    · rw [List.getD_eq_getElem?_getD, List.getElem?_eq_getElem hj]
      exact hb _ (List.getElem_mem hj)
    · exact .inl (by rw [getD_out (by omega)])
  have h2 := num_bound h
  rw [List.length_map, List.length_range] at h2
  exact h2
theorem spec_octets {w : World} {mean : ExcName → Option Value} {mg mb : Str → Option Value} {news : List (Addr × Obj)} {l : Addr} {cap : Nat} {ys : List Value} {bits : List Int} (hys : IntsAre ys bits) (hb : IsBits bits) (hz : bits.length < 100000) :
    Spec w mean mg mb 218 [.ref l] ((l, listOf ys.toArray cap) :: news) 10 100 (fun r news' => ∃ t, r = .bytes (byteArr (octs bits)) t ∧ news' = (l, listOf ys.toArray cap) :: news) := by
  unfold Spec
  k_fill
  intro dp un gd cn cs a ccd cl outer A₀ base h₀ L m s Q E B F X N T hk hd hu hret
  refine wpAny_call ?_
  walk_at "fc enter"
  have parkF : ParkFor := trivial
  k_steps
  refine exec_forA ?_
  k_steps
  refine' forRangeD (K := allK) (n := (bits.length + 7) / 8) (J := fun m₀ D i m' news' => (∃ u1 u2 u3, m' = fun y => if y = Str.ofString "at" then u1 else if y = Str.ofString "number" then u2 else if y = Str.ofString "j" then u3 else m₀ y) ∧
    ∃ zs cap', IntsAre zs ((List.range i).map (octAt bits)) ∧ news' = (D, listOf zs.toArray cap') :: (l, listOf ys.toArray cap) :: news) ?hh ?hK ?hKb ?hk ?hx ?hr ?F ?N ?hsm ?hn ?h0 ?sep ?turn ?done
  case hh => exact rfl
  case hK => exact fun _ => rfl
  case hKb => exact rfl
  case hk => exact rfl
  case hx => exact rfl
  case hr => assumption
  case F => k_asm
  case N => k_asm
  case hsm => exact small_up8 (by omega) (by omega)
  case hn => exact size_up8 _
  case h0 => exact ⟨⟨_, _, _, map3 fun _ _ _ _ => rfl⟩, [], 0, .nil, rfl⟩
  case sep =>
    rintro I i m' news' hI _ ⟨_, zs, cap', _, rfl⟩ p hp
    simp only [List.forall_mem_cons] at hI
    obtain ⟨i1, i2, i3⟩ := hI
    simp only [List.mem_cons] at hp
    rcases hp with rfl | rfl | hp
    · exact Nat.ne_of_lt i1
    · exact Nat.ne_of_lt i2
    · exact Nat.ne_of_lt (i3 p hp)
  case turn =>
    intro I hI i tk o m' news' h tk' hi hJ F1 N1
    obtain ⟨⟨u1, u2, u3, rfl⟩, zs, cap', hzs, rfl⟩ := hJ
    k_lt hI
    refine wpS_of ?_
    have parkF : ParkFor := trivial
    k_steps
    refine exec_forA ?_
    k_steps
    refine' forRangeN (K := allK) (n := 8) (J := fun m₁ n₁ j m' news' => (∃ u3 t2, m' = fun y => if y = Str.ofString "j" then u3 else if y = Str.ofString "number" then some (.int (octN bits i j) t2) else m₁ y) ∧
      news' = n₁) ?xhh ?xhK ?xhKb ?xhk ?xhx ?xhr ?xF ?xN ?xhsm ?xhn ?xh0 ?xsep ?xturn ?xdone
    case xhh => exact rfl
    case xhK => exact fun _ => rfl
    case xhKb => exact rfl
    case xhk => exact rfl
    case xhx => exact rfl
    case xhr => assumption
    case xF => k_asm
    case xN => k_asm
    case xhsm => decide
    case xhn => decide
    case xh0 => exact ⟨⟨_, _, map2 fun _ _ _ => rfl⟩, rfl⟩
    case xsep =>
      rintro J i m' news' hJ _ ⟨_, rfl⟩ p hp
      exact Nat.ne_of_lt (hJ p hp)
    case xturn =>
      intro J hJ j tk9 o9 m' news' h9 tk8 hj hJ9 F1 N1
      obtain ⟨⟨u3, t2, rfl⟩, rfl⟩ := hJ9
      k_lt hJ
      refine wpS_of ?_
      k_steps
      · rename Fr _ _ _ _ => F9
        rename News _ _ _ _ => N9
        have hv : 2 * octN bits i j + bits.getD (0 + (i : Int) * 8 + (0 + (j : Int) * 1)).toNat 0 = octN bits i (j + 1) := by
          rw [octN_succ, show (0 + (i : Int) * 8 + (0 + (j : Int) * 1)).toNat = 8 * i + j by omega]
        exact TurnEnd.same F9 N9 ⟨⟨_, _, frame2 (congrArg (fun z => some (Value.int z _)) hv) (fun n e1 e2 => by simp only [e1, e2, if_false])⟩, rfl⟩
      · rename Fr _ _ _ _ => F9
        rename News _ _ _ _ => N9
        have hv : 2 * octN bits i j + 0 = octN bits i (j + 1) := by
          rw [octN_succ, getD_out (by omega)]
        exact TurnEnd.same F9 N9 ⟨⟨_, _, frame2 (congrArg (fun z => some (Value.int z _)) hv) (fun n e1 e2 => by simp only [e1, e2, if_false])⟩, rfl⟩
    case xdone =>
      intro m' news' h9 tk9 hJ F1 N1
      obtain ⟨⟨u3, t2, rfl⟩, rfl⟩ := hJ
      dsimp only
      have hl9 : ((List.range i).map (octAt bits)).length < 100000 := by rw [List.length_map, List.length_range]; omega
      k_steps
      rename Fr _ _ _ _ => F9
      rename News _ _ _ _ => N9
      rw [List.push_toArray] at N9
      refine TurnEnd.same F9 N9 ⟨⟨_, _, _, map3 fun n e1 e2 e3 => by simp only [e1, e2, e3, if_false]⟩, _, _, ?_, rfl⟩
      rw [List.range_succ, List.map_append, List.map_singleton]
      exact ksk_snoc hzs
  case done =>
    intro m' news' h tk hJ F1 N1
    obtain ⟨⟨u1, u2, u3, rfl⟩, zs, cap', hzs, rfl⟩ := hJ
    dsimp only
    have hl9 : ((List.range ((bits.length + 7) / 8)).map (octAt bits)).length < 100000 := by rw [List.length_map, List.length_range]; omega
    k_steps
    refine call_bytes_ints (News.isList (by k_asm) (by k_mem)) hzs (octAt_byte hb) (by rw [hzs.length, sizeLine_eq]; omega) rfl fun h' t9 k9 hk9 => ?_
    have F2 := fr_ext F1 hk9
    have N2 := news_ext N1 hk9
    refine leaveK_ F2 N2 ?_
    intro kF kN
    dsimp only
    exact hret _ _ _ _ kF (cb_drop (news := (l, listOf ys.toArray cap) :: news) kN (by walk_at "fc led")) ⟨_, rfl, rfl⟩
end
section
local macro_rules | `(tactic| walk_at "fc nil") => `(tactic| fail "none")
set_option maxRecDepth 100000
set_option maxHeartbeats 1500000
local macro_rules | `(tactic| walk_at "fc enter") => `(tactic| k_dflt (first
  | (refine' code_def ?k1 ?k2 ?k3 ?k4 ?k5 ?kA ?kF ?kK ?k6 ?k7 ?k8 ?k9 ?kB ?_ ?c2 ?c3 ?c4 ?c5; (case kA => exact rfl); (case kF => exact rfl); (case kK => first | exact rfl | assumption); (case k1 => k_asm); (case k2 => k_asm); (case k3 => k_asm); (case k4 => k_asm); (case k5 => k_asm); (case k6 => k_is); (case k7 => k_is); (case k8 => ktr_room); (case k9 => first | exact BindsTo.of_eq rfl | exact binds_K (by k_in) rfl (by k_is) rfl rfl rfl); (case c5 => decide); (case kB => exact locs rfl); (case c2 => exact rfl); (case c3 => exact rfl); (case c4 => exact rfl); k_whole; intro g' L' h' FG' F' N' B' X' T'; (try dsimp only); (try k_lift B'); (try k_fold))
  | (refine' code_defC ?k1 ?k2 ?k3 ?k4 ?k5 ?kA ?kF ?kK ?k6 ?k7 ?k8 ?k9 ?kB ?kD ?_ ?c2 ?c3 ?c4; (case kA => exact rfl); (case kF => exact rfl); (case kK => first | exact rfl | assumption); (case k1 => k_asm); (case k2 => k_asm); (case k3 => k_asm); (case k4 => k_asm); (case k5 => k_asm); (case k6 => k_is); (case k7 => k_is); (case k8 => ktr_room); (case k9 => first | exact BindsTo.of_eq rfl | exact binds_K (by k_in) rfl (by k_is) rfl rfl rfl); (case kB => exact rfl); (case kD => decide +kernel); (case c2 => exact rfl); (case c3 => exact rfl); (case c4 => exact rfl); k_whole; intro g' L' h' tk' cells' FG' F' N' Y' B' X' T' l1; (try k_lt l1); k_cells Y'; (try simp only [List.cons_append, List.nil_append] at N'); (try dsimp only); (try k_lift B'); (try k_fold))))
local macro_rules | `(tactic| walk_at "fc enterW") => `(tactic| k_dflt (
  (refine' code_defW ?k1 ?k2 ?k3 ?k4 ?k5 ?kA ?kF ?kK ?k6 ?k7 ?k8 ?k9 ?kB ?_ ?c2 ?c3 ?c4 ?c5; (case kA => exact rfl); (case kF => exact rfl); (case kK => first | exact rfl | assumption); (case k1 => k_asm); (case k2 => k_asm); (case k3 => k_asm); (case k4 => k_asm); (case k5 => k_asm); (case k6 => k_is); (case k7 => k_is); (case k8 => ktr_room); (case k9 => first | exact BindsTo.of_eq rfl | exact binds_K (by k_in) rfl (by k_is) rfl rfl rfl); (case c5 => decide); (case kB => exact locs rfl); (case c2 => exact rfl); (case c3 => exact rfl); (case c4 => exact rfl); k_whole; intro g' L' h' tk' FG' F' N' B' X' T' l1; (try k_lt l1); (try dsimp only); (try k_lift B'))))
local macro_rules | `(tactic| k_all) => `(tactic| exact off_of_lt (by with_reducible assumption))
local macro_rules | `(tactic| k_all) => `(tactic| with_reducible assumption)
local macro_rules | `(tactic| walk_at "fc sub") => `(tactic| (intro p9 h9; simp only [List.mem_cons, List.mem_append] at h9 ⊢; grind))
local macro_rules | `(tactic| walk_at "fc led") => `(tactic| first
  | exact List.forall_mem_nil _
  | (refine' List.forall_mem_cons.mpr ⟨?fa, ?fb⟩; (case fa => k_mem); (case fb => walk_at "fc led"))
  | (intro p9 h9; repeat (first | exact h9 | refine List.Mem.tail _ ?_)))
local macro_rules | `(tactic| walk_at "exec While") => `(tactic| (rename ParkWhile => z9; clear z9; refine Parked.go ?_))
local macro_rules | `(tactic| walk_at "exec Try") => `(tactic| (rename ParkTry => z9; clear z9; refine Parked.go ?_))
local macro_rules | `(tactic| walk_at "exec For") => `(tactic| (rename ParkFor => z9; clear z9; refine Parked.go ?_))
local macro_rules | `(tactic| walk_at "exec For Name Call") => `(tactic| (rename ParkFor => z9; clear z9; refine Parked.go ?_))
local macro_rules | `(tactic| walk_at "exec For Name Call cons nil") => `(tactic| (rename ParkFor => z9; clear z9; refine Parked.go ?_))
local macro_rules | `(tactic| walk_at "exec For Name Name") => `(tactic| (rename ParkFor => z9; clear z9; refine Parked.go ?_))
local macro_rules | `(tactic| walk_at "exec For Name Name cons nil") => `(tactic| (rename ParkFor => z9; clear z9; refine Parked.go ?_))
local macro_rules | `(tactic| walk_at "exec For Name List cons nil") => `(tactic| (rename ParkFor => z9; clear z9; refine Parked.go ?_))
local macro_rules | `(tactic| walk_at "fc pick") => `(tactic| first | k_asm | (rename News _ _ _ _ => z9; exact cb_drop z9 (by walk_at "fc led")))
local macro_rules | `(tactic| walk_at "fc room") => `(tactic| first | omega | ((try simp only [depth_under_make, depth_under_kw, depth_in1, depth_deeper, depth_caller]); (try dsimp only [ktrTop]); omega) | ktr_room)
local macro_rules | `(tactic| walk_at "fc units") => `(tactic| first | omega | (have hcL9 := cLine_is; (try simp only [units_in1, units_deeper, Around.mark_units, units_caller]); (try dsimp only [ktrTop]); omega) | ktr_units)

theorem wd_range (k : Nat) : 0 ≤ ([0, 1, 3, 19, 5] : List Int).getD k 0 ∧ ([0, 1, 3, 19, 5] : List Int).getD k 0 < 20 := by
  match k with
  | 0 => decide
  | 1 => decide
  | 2 => decide
  | 3 => decide
  | 4 => decide
  | k + 5 => rw [getD_out (by simp)]; decide
theorem fill_unique {n k : Nat} (hk : k < 8) (h : (n + k) % 8 = 0) : k = fillN n := by unfold fillN; omega
theorem specC_lawWrite {w : World} {mean : ExcName → Option Value} {mg mb : Str → Option Value} {news : List (Addr × Obj)} {x dx b l : Addr} {cap : Nat} {ys : List Value} {h1 h2 h3 : Int} {k1 k2 k3 tb tf : Tok} {bits : List Int} {arr : Array UInt8} {bv fv : Int}
    {n c : Int} {tn tc : Tok} (S : WSep x dx b ((l, listOf ys.toArray cap) :: news)) (hxl : @Ne Nat x l) (hl : ∀ p ∈ news, p.1 ≠ l) (W : WRep bits arr bv fv) (hys : IntsAre ys bits) (hn : 0 ≤ n) (hz : bits.length < 80000) :
    SpecC w mean mg mb 232 [.ref x, .ref l, .int n tn, .int c tc] ((x, instObj 132 dx) :: (dx, wDict h1 h2 h3 k1 k2 k3 b bv tb fv tf) :: (b, baObj arr) :: (l, listOf ys.toArray cap) :: news) 40 400
      (fun r news' => r = .bool true ∧ ∃ bits' ys' cap' arr' bv' fv' tb' tf', bits'.length ≤ bits.length + 60 ∧ WRep bits' arr' bv' fv' ∧ IntsAre ys' bits' ∧
        news' = (x, instObj 132 dx) :: (dx, wDict h1 h2 h3 k1 k2 k3 b bv' tb' fv' tf') :: (b, baObj arr') :: (l, listOf ys'.toArray cap') :: news) := by
  unfold SpecC
  k_fill
  intro dp un cn cs a ccd cl outer A₀ base h₀ L m s Q E B F X N T hk hd hu hret
  refine wpC_call ?_
  walk_at "fc enterW"
  refine wpC_consL ?_
  k_steps
  dsimp only
  refine wpC_cons (wpC_IfL ?_)
  k_steps
  · rename (n.fmod 5 < 2) => hkind
    have c0 : 0 ≤ (n.fdiv 5).fmod 18 := by rw [Int.fmod_eq_emod_of_nonneg _ (by decide)]; omega
    have c1 : (n.fdiv 5).fmod 18 < 18 := by rw [Int.fmod_eq_emod_of_nonneg _ (by decide)]; omega
    refine wpC_consL ?_
    k_steps
    dsimp only
    refine wpC_cons (wpC_Expr (wpC_CallMeth ?_))
    k_steps
    refine wpC_callWith (P := (FC.hd.heap_39 w.params).In) rfl (keeps_K (by k_is)) (wpC_of ?_)
    k_steps
    refine' specC_use (specC_write (h1 := h1) (h2 := h2) (h3 := h3) (k1 := k1) (k2 := k2) (k3 := k3) (tb := tb) (tf := tf) S W c0 (by omega) (by omega)) ?k1 ?k2 ?k3 ?k4 ?k5 ?kK ?kd ?ku ?_
    case k1 => k_asm
    case k2 => k_asm
    case k3 => k_asm
    case k4 => walk_at "fc pick"
    case k5 => k_asm
    case kK => first | exact rfl | assumption
    case kd => walk_at "fc room"
    case ku => walk_at "fc units"
    rintro r news' h' tk' F' N' ⟨rfl, arr', bv', fv', tb', tf', W', rfl⟩
    refine ⟨rfl, ?_⟩
    have hl40 : (bitsOf c ((n.fdiv 5).fmod 18)).length < 40 := by rw [bitsOf_length]; omega
    refine wpC_consL ?_
    k_steps
    refine' spec_use (spec_bits c0 (by omega)) ?k1 ?k2 ?k3 ?k4 ?k5 ?kK ?kd ?ku ?_
    case k1 => k_asm
    case k2 => k_asm
    case k3 => k_asm
    case k4 => walk_at "fc pick"
    case k5 => k_asm
    case kK => first | exact rfl | assumption
    case kd => walk_at "fc room"
    case ku => walk_at "fc units"
    rintro r news' h' tk' F' N' ⟨D9, zs, cap9, rfl, hzs, hoff, rfl⟩
    k_steps
    simp only [List.forall_mem_cons] at hoff
    obtain ⟨o1, o2, o3, o4, o5⟩ := hoff
    have od := S.offd
    have ob := S.offb
    simp only [List.forall_mem_cons] at od ob
    obtain ⟨ld, od⟩ := od
    obtain ⟨lb, ob⟩ := ob
    rename News _ _ _ _ => N9
    refine extendHead (xs := ys) (n := cap) (rest := (D9, listOf zs.toArray cap9) :: (x, instObj 132 dx) :: (dx, wDict h1 h2 h3 k1 k2 k3 b bv' tb' fv' tf') :: (b, baObj arr') :: news) (by k_asm) (cb_drop N9 (by walk_at "fc led")) (.head _) ?_ (by rw [hys.length, hzs.length]; omega) fun h' cap2 F' N' => ?_
    · simp only [List.forall_mem_cons]
      exact ⟨Ne.symm o4, hxl, Ne.symm ld, Ne.symm lb, hl⟩
    dsimp only
    refine wpC_nil ?_
    dsimp only
    refine wpC_cons (wpC_Return (wpC_of ?_))
    k_steps
    rename News h₀ L _ _ => kN
    rename Fr h₀ L _ m => kF
    refine hret _ _ _ _ kF (cb_drop (news := (x, instObj 132 dx) :: (dx, wDict h1 h2 h3 k1 k2 k3 b bv' tb' fv' tf') :: (b, baObj arr') :: (l, listOf (ys ++ zs).toArray cap2) :: news) kN (by walk_at "fc led")) ⟨rfl, _, ys ++ zs, cap2, arr', bv', fv', tb', tf', ?_, W', IntsAre.append hys hzs, rfl⟩
    rw [List.length_append]; omega
  · rename (¬ n.fmod 5 < 2) => hkind
    refine wpC_cons (wpC_IfL ?_)
    k_steps
    · rename (n.fmod 5 < 4) => hkind2
      have od := S.offd
      have ob := S.offb
      simp only [List.forall_mem_cons] at od ob
      obtain ⟨ld, od⟩ := od
      obtain ⟨lb, ob⟩ := ob
      have hw := wd_range ((n.fdiv 5).fmod 5).toNat
      refine wpC_consL ?_
      k_steps
      dsimp only
      generalize ([0, 1, 3, 19, 5] : List Int).getD ((n.fdiv 5).fmod 5).toNat 0 = wd at *
      obtain ⟨hw0, hw1⟩ := hw
      have hpp : (2 : Int) ^ (wd + 4).toNat = 2 ^ wd.toNat * 16 := by rw [show (wd + 4).toNat = wd.toNat + 4 by omega, Int.pow_add]; rfl
      have hp0 : (0 : Int) < 2 ^ wd.toNat := Int.pow_pos (by decide)
      have hv0 : 0 ≤ (n.fdiv 25).fmod (2 ^ (wd + 4).toNat) := by rw [Int.fmod_eq_emod_of_nonneg _ (Int.pow_nonneg (by decide))]; exact Int.emod_nonneg _ (by rw [hpp]; omega)
      have hv1 : (n.fdiv 25).fmod (2 ^ (wd + 4).toNat) < 2 ^ wd.toNat * 16 := by rw [Int.fmod_eq_emod_of_nonneg _ (Int.pow_nonneg (by decide)), hpp]; exact Int.emod_lt_of_pos _ (by omega)
      refine wpC_consL ?_
      k_steps
      dsimp only
      generalize (n.fdiv 25).fmod (2 ^ (wd + 4).toNat) = v at *
      have hq0 : 0 ≤ v.fdiv (2 ^ wd.toNat) := by rw [Int.fdiv_eq_ediv_of_nonneg _ (by omega)]; exact Int.ediv_nonneg hv0 (by omega)
      have hq1 : v.fdiv (2 ^ wd.toNat) < 16 := by rw [Int.fdiv_eq_ediv_of_nonneg _ (by omega)]; exact Int.ediv_lt_of_lt_mul hp0 (by rw [Int.mul_comm]; exact hv1)
      refine wpC_cons (wpC_Expr (wpC_CallName ?_))
      k_steps
      refine wpC_callWith (P := (FC.hd.heap_39 w.params).In) rfl (keeps_K (by k_is)) (wpC_of ?_)
      k_steps
      rename News _ _ _ _ => N8
      refine' specC_use (specC_encode (h1 := h1) (h2 := h2) (h3 := h3) (k1 := k1) (k2 := k2) (k3 := k3) (tb := tb) (tf := tf) (news := (l, listOf ys.toArray cap) :: news) S W hw0 (by omega) hq0 (by omega) (by omega)) ?k1 ?k2 ?k3 ?k4 ?k5 ?kK ?kd ?ku ?_
      case k1 => k_asm
      case k2 => k_asm
      case k3 => k_asm
      case k4 => exact cb_drop N8 (by walk_at "fc led")
      case k5 => k_asm
      case kK => exact rfl
      case kd => walk_at "fc room"
      case ku => walk_at "fc units"
      rintro r news' h' tk' F' N' ⟨rfl, arr', bv', fv', tb', tf', W', rfl⟩
      refine ⟨rfl, ?_⟩
      refine wpC_consL ?_
      k_steps
      have hlc : (List.replicate (v.fdiv (2 ^ wd.toNat)).toNat 1 ++ [0] ++ bitsOf v wd).length < 60 := by rw [List.length_append, List.length_append, List.length_replicate, bitsOf_length, List.length_singleton]; omega
      refine' spec_use (spec_coded hw0 (by omega) hq0 (by omega)) ?k1 ?k2 ?k3 ?k4 ?k5 ?kK ?kd ?ku ?_
      case k1 => k_asm
      case k2 => k_asm
      case k3 => k_asm
      case k4 => walk_at "fc pick"
      case k5 => k_asm
      case kK => first | exact rfl | assumption
      case kd => walk_at "fc room"
      case ku => walk_at "fc units"
      rintro r news' h' tk' F' N' ⟨D9, zs, cap9, rfl, hzs, hoff, rfl⟩
      k_steps
      simp only [List.forall_mem_cons] at hoff
      obtain ⟨o1, o2, o3, o4, o5⟩ := hoff
      rename News _ _ _ _ => N9
      refine extendHead (xs := ys) (n := cap) (rest := (D9, listOf zs.toArray cap9) :: (x, instObj 132 dx) :: (dx, wDict h1 h2 h3 k1 k2 k3 b bv' tb' fv' tf') :: (b, baObj arr') :: news) (by k_asm) (cb_drop N9 (by walk_at "fc led")) (.head _) ?_ (by rw [hys.length, hzs.length]; omega) fun h' cap2 F' N' => ?_
      · simp only [List.forall_mem_cons]
        exact ⟨Ne.symm o4, hxl, Ne.symm ld, Ne.symm lb, hl⟩
      dsimp only
      refine wpC_nil ?_
      dsimp only
      try refine wpC_nil ?_
      try dsimp only
      refine wpC_cons (wpC_Return (wpC_of ?_))
      k_steps
      rename News h₀ L _ _ => kN
      rename Fr h₀ L _ m => kF
      refine hret _ _ _ _ kF (cb_drop (news := (x, instObj 132 dx) :: (dx, wDict h1 h2 h3 k1 k2 k3 b bv' tb' fv' tf') :: (b, baObj arr') :: (l, listOf (ys ++ zs).toArray cap2) :: news) kN (by walk_at "fc led")) ⟨rfl, _, ys ++ zs, cap2, arr', bv', fv', tb', tf', ?_, W', IntsAre.append hys hzs, rfl⟩
      rw [List.length_append]; omega
    · rename (¬ n.fmod 5 < 4) => hkind2
      have od := S.offd
      have ob := S.offb
      simp only [List.forall_mem_cons] at od ob
      obtain ⟨ld, od⟩ := od
      obtain ⟨lb, ob⟩ := ob
      refine wpC_consL ?_
      k_steps
      refine' spec_use (spec_fill (news := (x, instObj 132 dx) :: (dx, wDict h1 h2 h3 k1 k2 k3 b bv tb fv tf) :: (b, baObj arr) :: news) hys (by omega) (by simp only [List.forall_mem_cons]; exact ⟨hxl, Ne.symm ld, Ne.symm lb, hl⟩)) ?k1 ?k2 ?k3 ?k4 ?k5 ?kK ?kd ?ku ?_
      case k1 => k_asm
      case k2 => k_asm
      case k3 => k_asm
      case k4 => walk_at "fc pick"
      case k5 => k_asm
      case kK => first | exact rfl | assumption
      case kd => walk_at "fc room"
      case ku => walk_at "fc units"
      rintro r news' h' tk' F' N' ⟨rfl, zs, cap9, hzs, rfl⟩
      k_steps
      refine wpC_consL ?_
      k_steps
      have hfl : (bits ++ List.replicate (fillN bits.length) 0).length < 100000 := by rw [List.length_append, List.length_replicate]; unfold fillN; omega
      have hfb : IsBits (bits ++ List.replicate (fillN bits.length) 0) := W.1.append fun b hb => .inl (List.eq_of_mem_replicate hb)
      refine' spec_use (spec_octets (news := (x, instObj 132 dx) :: (dx, wDict h1 h2 h3 k1 k2 k3 b bv tb fv tf) :: (b, baObj arr) :: news) hzs hfb hfl) ?k1 ?k2 ?k3 ?k4 ?k5 ?kK ?kd ?ku ?_
      case k1 => k_asm
      case k2 => k_asm
      case k3 => k_asm
      case k4 => walk_at "fc pick"
      case k5 => k_asm
      case kK => first | exact rfl | assumption
      case kd => walk_at "fc room"
      case ku => walk_at "fc units"
      rintro r news' h' tk' F' N' ⟨t9, rfl, rfl⟩
      k_steps
      have S2 : WSep x dx b ((l, listOf zs.toArray cap9) :: news) := ⟨S.xd, S.xb, S.db, by simp only [List.forall_mem_cons]; exact ⟨ld, od⟩, by simp only [List.forall_mem_cons]; exact ⟨lb, ob⟩⟩
      refine wpC_cons (wpC_Return (wpC_And (wpC_Compare (wpC_CallMeth ?_))))
      k_steps
      refine wpC_callWith (P := (FC.hd.heap_39 w.params).In) rfl (keeps_K (by k_is)) (wpC_of ?_)
      k_steps
      refine' specC_use (specC_flush (h1 := h1) (h2 := h2) (h3 := h3) (k1 := k1) (k2 := k2) (k3 := k3) (tb := tb) (tf := tf) S2 W (by omega)) ?k1 ?k2 ?k3 ?k4 ?k5 ?kK ?kd ?ku ?_
      case k1 => k_asm
      case k2 => k_asm
      case k3 => k_asm
      case k4 => walk_at "fc pick"
      case k5 => k_asm
      case kK => first | exact rfl | assumption
      case kd => walk_at "fc room"
      case ku => walk_at "fc units"
      rintro r news' h' tk' F' N' ⟨arr', tb', tf', u', bits', ⟨n0, hn0, hb', h80⟩, rfl, W', rfl⟩
      have e0 : n0 = fillN bits.length := fill_unique hn0 (by rw [hb', List.length_append, List.length_replicate] at h80; exact h80)
      subst e0
      subst hb'
      k_steps
      · refine wpC_Compare (wpC_CallMeth ?_)
        k_steps
        refine wpC_callWith (P := (FC.hd.heap_39 w.params).In) rfl (keeps_K (by k_is)) (wpC_of ?_)
        k_steps
        refine' specC_use (specC_flush (h1 := h1) (h2 := h2) (h3 := h3) (k1 := k1) (k2 := k2) (k3 := k3) (tb := tb') (tf := tf') S2 W' (by omega)) ?k1 ?k2 ?k3 ?k4 ?k5 ?kK ?kd ?ku ?_
        case k1 => k_asm
        case k2 => k_asm
        case k3 => k_asm
        case k4 => walk_at "fc pick"
        case k5 => k_asm
        case kK => first | exact rfl | assumption
        case kd => walk_at "fc room"
        case ku => walk_at "fc units"
        rintro r news' h' tk' F' N' ⟨arr2, tb2, tf2, u2, bits2, ⟨n2, hn2, hb2, h82⟩, rfl, W2, rfl⟩
        have e0 : n2 = 0 := by rw [hb2, List.length_append, List.length_replicate] at h82; omega
        subst e0
        rw [List.replicate_zero, List.append_nil] at hb2
        subst hb2
        k_steps
        rename News h₀ L _ _ => kN
        rename Fr h₀ L _ m => kF
        rw [beq_self_eq_true]
        refine hret _ _ _ _ kF (cb_drop (news := (x, instObj 132 dx) :: (dx, wDict h1 h2 h3 k1 k2 k3 b 0 tb2 0 tf2) :: (b, baObj arr2) :: (l, listOf zs.toArray cap9) :: news) kN (by walk_at "fc led")) ⟨rfl, _, zs, cap9, arr2, 0, 0, tb2, tf2, ?_, W2, hzs, rfl⟩
        rw [List.length_append, List.length_replicate]; unfold fillN; omega
      · exfalso
        rename (_ = false) => hf
        simp at hf
end
section
open PySem PyProof.Rows
theorem num_div {l r : List Int} (hr : IsBits r) : num (l ++ r) / 2 ^ r.length = num l ∧ num (l ++ r) % 2 ^ r.length = num r := by
  have h := num_bound hr
  have hp : (0 : Int) < 2 ^ r.length := Int.pow_pos (by decide)
  rw [num_append]
  exact PySem.W.kbt_unique hp (by rw [Int.mul_comm]; omega) h.1 h.2
theorem value_snoc (l : List Int) (k : Int) : PySem.W.KFB.value (l ++ [k]) = PySem.W.KFB.value l * 256 + k := by
  unfold PySem.W.KFB.value
  rw [List.foldl_append]; rfl
theorem octAt_take {bits : List Int} {k : Nat} (h : 8 * k + 8 ≤ bits.length) : octAt bits k = num ((bits.drop (8 * k)).take 8) := by
  unfold octAt
  congr 1
  apply List.ext_getElem
  · simp; omega
  · intro i h1 h2
    simp only [List.length_map, List.length_range] at h1
    simp only [List.getElem_map, List.getElem_range, List.getElem_take, List.getElem_drop, List.getD_eq_getElem?_getD]
    rw [List.getElem?_eq_getElem (by omega)]; rfl
theorem octs_length (bits : List Int) : (octs bits).length = (bits.length + 7) / 8 := by unfold octs; simp
/-- some octets of a row, as one number -/
theorem value_octs {bits : List Int} {i : Nat} : ∀ k : Nat, 8 * (i + k) ≤ bits.length → PySem.W.KFB.value (((octs bits).drop i).take k) = num ((bits.drop (8 * i)).take (8 * k))
  | 0, _ => rfl
  | k + 1, h => by
    have ih := value_octs k (bits := bits) (i := i) (by omega)
    have hl := octs_length bits
    rw [List.take_add_one, List.getElem?_drop, List.getElem?_eq_getElem (by omega)]
    simp only [Option.toList_some]
    rw [value_snoc, ih]
    have e1 : (octs bits)[i + k]'(by omega) = num ((bits.drop (8 * (i + k))).take 8) := by
      rw [← octAt_take (by omega)]
      simp [octs]
    have e2 : (bits.drop (8 * i)).take (8 * (k + 1)) = (bits.drop (8 * i)).take (8 * k) ++ (bits.drop (8 * (i + k))).take 8 := by
      rw [show 8 * (k + 1) = 8 * k + 8 by omega, List.take_add, List.drop_drop, show 8 * i + 8 * k = 8 * (i + k) by omega]
    have e3 : ((bits.drop (8 * (i + k))).take 8).length = 8 := by simp; omega
    rw [e1, e2, num_append, e3]
    rfl
/-- what a reader tells -/
theorem read_value {bits : List Int} (hb : IsBits bits) {p c : Nat} (h8 : bits.length % 8 = 0) (h : p + c ≤ bits.length) :
    Builtin.bitAnd ((PySem.W.KFB.value (((octs bits).drop (p / 8)).take ((p + c + 7) / 8 - p / 8))).fdiv (2 ^ ((-((p : Int) + (c : Int))).fmod 8).toNat)) (1 * 2 ^ c - 1) = num ((bits.drop p).take c) := by
  rw [value_octs _ (by omega)]
  have e0 : (-((p : Int) + (c : Int))).fmod 8 = ((8 * ((p + c + 7) / 8) - (p + c) : Nat) : Int) := by
    rw [Int.fmod_eq_emod_of_nonneg _ (by decide)]
    omega
  rw [e0, Int.toNat_natCast]
  have hs : 8 * (p / 8) ≤ p := by omega
  have e1 : (bits.drop (8 * (p / 8))).take (8 * ((p + c + 7) / 8 - p / 8)) = ((bits.drop (8 * (p / 8))).take (p - 8 * (p / 8)) ++ (bits.drop p).take c) ++ (bits.drop (p + c)).take (8 * ((p + c + 7) / 8) - (p + c)) := by
    have a1 : 8 * ((p + c + 7) / 8 - p / 8) = (p - 8 * (p / 8)) + (c + (8 * ((p + c + 7) / 8) - (p + c))) := by omega
    rw [a1, List.take_add, List.drop_drop, List.take_add, List.drop_drop, ← List.append_assoc, show 8 * (p / 8) + (p - 8 * (p / 8)) = p by omega]
  have hr : IsBits ((bits.drop (p + c)).take (8 * ((p + c + 7) / 8) - (p + c))) := (hb.drop _).take _
  have hm : IsBits ((bits.drop p).take c) := (hb.drop _).take _
  have l1 : ((bits.drop (p + c)).take (8 * ((p + c + 7) / 8) - (p + c))).length = 8 * ((p + c + 7) / 8) - (p + c) := by simp; omega
  have l2 : ((bits.drop p).take c).length = c := by simp; omega
  rw [e1, Int.fdiv_eq_ediv_of_nonneg _ (Int.pow_nonneg (by decide))]
  have d1 := (num_div (l := (bits.drop (8 * (p / 8))).take (p - 8 * (p / 8)) ++ (bits.drop p).take c) hr).1
  rw [l1] at d1
  rw [d1, Int.one_mul, PySem.W.kbt_mask]
  have d2 := (num_div (l := (bits.drop (8 * (p / 8))).take (p - 8 * (p / 8))) hm).2
  rw [l2] at d2
  exact d2
theorem num_any {l : List Int} (h : IsBits l) : num l = 0 ↔ (l.any fun x => x == 1) = false := by
  induction l with
  | nil => simp [num]
  | cons b r ih =>
    have hr : IsBits r := fun c hc => h c (List.mem_cons_of_mem _ hc)
    have hb := num_bound hr
    have h2 : (0 : Int) < 2 ^ r.length := Int.pow_pos (by decide)
    rw [num_cons, List.any_cons]
    rcases h b (by simp) with rfl | rfl
    · rw [Int.zero_mul, Int.zero_add, ih hr]; simp
    · simp; omega
end
section
set_option maxRecDepth 100000
set_option maxHeartbeats 4000000
abbrev vMro : List Value := [.type "ValueError", .type "Exception", .type "BaseException", .type "object"]
section
variable {prog : Program} {w : World} {M : Model} {A : Around} {E : Value → Shared → Prop} {h : Heap} {g : Array GenState} {d : Drawn} {t : Nat} {os : OsState}
variable {nm q : Str} {C N : Addr} {bs bm : List Value} {hdct : Bool} {sn : List Str} {sub : List Value} {ab : Bool} {col : Option Bool} {dd : Option Addr} {k0 k1 k2 k3 k5 : Option Value}
/-- an own class of two bases: made by the one's __new__, set up by the other's __init__ -/
theorem checkNew2 (T : OwnTail h vMro bm) {rest : List Value} {Q : Unit → Shared → Prop} (hC : h.get? C = some (excClassObj nm q C N bs bm hdct sn sub ab col dd k0 k1 k2 k3 k5 "Exception.__new__"))
    (hq : Q () ⟨h, g, d, t, os⟩) : wpAny M A (checkBuiltinCall "Exception.__new__" ⟨.ref C :: rest, []⟩) Q E ⟨h, g, d, t, os⟩ := by
  have FN := PySem.F.excBase_Exception
  have hcont : (Value.ref C :: bm).contains (.type "Exception") = true := by rw [List.contains_cons, T.hasType (b := true) (by decide), Bool.or_true]
  have hstar := FN.noStar
  simp only [checkBuiltinCall, FN.newKind, FN.newSplit, FN.newRow]
  repeat (first | refine wpAny_loadPart_at hC ?_ | (refine wpAny_isSubtype_exc hC ?_; rw [hcont]) | refine wpAny_staticBase_exc hC ?_ | refine wpAny_madeBy_exc hC ?_ | simp only [bne_self_eq_false, Bool.false_eq_true, if_false] | wp_step)
  exact hq
theorem new2 (T : OwnTail h vMro bm) {R : Result → Shared → Prop} {rest : List Value} (hC : h.get? C = some (excClassObj nm q C N bs bm hdct sn sub ab col dd k0 k1 k2 k3 k5 "Exception.__new__"))
    (hq : R (.ok (.ret (.ref (h.objs.size + 1)))) ⟨(h.push { cls := .type "tuple", data := .seq rest.toArray }).push
      { cls := .ref C, data := .fields #[.ref h.objs.size, .none, .none, .none, .bool false, .none] }, g, d, t, os⟩) (hrest : rest.length ≤ sizeLine) :
    codeAny (model prog w) A (.builtin "Exception.__new__" ⟨.ref C :: rest, []⟩) R ⟨h, g, d, t, os⟩ := by
  have FN := PySem.F.excBase_Exception
  have hends := FN.ends
  have hcB : (Value.ref C :: bm).contains (.type "Exception") = true := by rw [List.contains_cons, T.hasType (b := true) (by decide), Bool.or_true]
  have hcA : (Value.ref C :: bm).contains (.type "AttributeError") = false := by rw [List.contains_cons, T.hasType (b := false) (by decide)]; rfl
  have hcN : (Value.ref C :: bm).contains (.type "NameError") = false := by rw [List.contains_cons, T.hasType (b := false) (by decide)]; rfl
  refine codeAny_builtinAt FN.entry ?_
  unfold Builtin.«BaseException.__new__»
  refine PySem.wpAt_bind ?_
  show PySem.wpAt _ _ _ (stack >>= _) _ _ _
  refine PySem.wpAt_bind (PySem.wpAt_stack fun p below => PySem.wpAt_of_wpAny ?_)
  wp_walk
  refine PySem.wpAt_of_wpAny ?_
  rw [FN.owner]
  repeat (first | with_reducible refine wpAny_madeHere_exc FN.canon hC ?_ | with_reducible refine wpAny_loadPart_at hC ?_ | (with_reducible refine wpAny_isSubtype_exc hC ?_; first | rw [hcB] | rw [hcA] | rw [hcN]) | wp_step)
  show R _ _
  rw [Heap.size_push]
  exact hq
theorem checkInit2 (T : OwnTail h vMro bm) {e : Addr} {oe : Obj} {rest : List Value} {Q : Unit → Shared → Prop}
    (hC : h.get? C = some (excClassObj nm q C N bs bm hdct sn sub ab col dd k0 k1 k2 k3 k5 "Exception.__new__")) (he : h.get? e = some oe) (hcls : oe.cls = .ref C) (hq : Q () ⟨h, g, d, t, os⟩) :
    wpAny M A (checkBuiltinCall "ValueError.__init__" ⟨.ref e :: rest, []⟩) Q E ⟨h, g, d, t, os⟩ := by
  have F := PySem.F.excBase_ValueError
  have hcB : (Value.ref C :: bm).contains (.type "ValueError") = true := by rw [List.contains_cons, T.hasType (b := true) (by decide), Bool.or_true]
  have hshort := F.noStar
  simp only [checkBuiltinCall, F.initKind, F.initSplit, F.initRow]
  repeat (first | (with_reducible refine wpAny_loadPart_at he ?_; rw [hcls]) | with_reducible refine wpAny_loadPart_at hC ?_ | (with_reducible refine wpAny_isSubtype_exc hC ?_; rw [hcB]) | wp_step)
  refine wpAny_onRaise ?_
  rw [show ∀ (a b : String) (n : Nat), Bind.check ⟨.positional, "*", "ValueError", .self, [⟨"args", .varPos, false⟩]⟩ a b n (List.map (fun x => x.fst) ({ pos := Value.ref e :: rest } : Args).kw) = pure () from
    fun a b n => check_star_args _ _ _ _ _ _]
  exact wpAny_pure hq
theorem typeCall2 (T : OwnTail h vMro bm) {mN : Str → Option Value} {rest : List Value} {Q : Fin → Shared → Prop}
    (hC : h.get? C = some (excClassObj nm q C N bs bm hdct sn sub ab col dd k0 k1 k2 k3 k5 "Exception.__new__")) (hn : h.Ns N mN) (hni : mN "__init__" = none)
    (hq : ∀ h' e, Heap.MadeExcOf h h' e (.ref C) rest → Q (.done (.ret (.ref e))) ⟨h', g, d, t, os⟩) (hrest : rest.length ≤ sizeLine) :
    wpAny (model prog w) A (Builtin.«type.__call__» ⟨.ref C :: rest, []⟩) Q E ⟨h, g, d, t, os⟩ := by
  have F := PySem.F.excBase_ValueError
  repeat (first | with_reducible refine wpAny_loadPart_at hC ?_ | with_reducible refine wpAny_madeBy_exc hC ?_ | wp_step)
  refine codeAny_call_builtin_code (Code.quiet_builtin _ PySem.F.excBase_Exception.quiet) (checkNew2 T hC ?_)
  refine new2 T hC ?_ hrest
  show wpAny _ _ _ _ _ _
  have hC₁ := Heap.get?_push_of_some { cls := .ref C, data := .fields #[.ref h.objs.size, .none, .none, .none, .bool false, .none] }
    (Heap.get?_push_of_some { cls := .type "tuple", data := .seq rest.toArray } hC)
  have hn₁ : ((h.push { cls := .type "tuple", data := .seq rest.toArray }).push { cls := .ref C, data := .fields #[.ref h.objs.size, .none, .none, .none, .bool false, .none] }).Ns N mN :=
    let ⟨o, es, ep, e, r⟩ := hn; ⟨o, es, ep, Heap.get?_push_of_some _ (Heap.get?_push_of_some _ e), r⟩
  have hget : ((h.push { cls := .type "tuple", data := .seq rest.toArray }).push
      { cls := .ref C, data := .fields #[.ref h.objs.size, .none, .none, .none, .bool false, .none] }).get? (h.objs.size + 1) = some
      { cls := .ref C, data := .fields #[.ref h.objs.size, .none, .none, .none, .bool false, .none] } := by heap_get
  have hcC : (Value.ref C :: bm).contains (.ref C) = true := by simp
  have T₁ := T.keeps (h' := (h.push { cls := .type "tuple", data := .seq rest.toArray }).push { cls := .ref C, data := .fields #[.ref h.objs.size, .none, .none, .none, .bool false, .none] })
    fun b o e => Heap.get?_push_of_some _ (Heap.get?_push_of_some _ e)
  unfold isInstance
  repeat (first | with_reducible refine wpAny_loadPart_at hget ?_ | (with_reducible refine wpAny_isSubtype_exc hC₁ ?_; rw [hcC]) | wp_step)
  show wpAny _ _ (typeLookup (.ref C) _) _ _ _
  refine wpAny_typeLookup_tail hC₁ hn₁ T₁ F.mroIs F.init.lookup ?_
  rw [hni]
  refine wpAny_holding (wpAny_bind (wpAny_of_eq (F.init.bind _) ?_))
  refine wpAny_bind (wpAny_call (codeAny_call_builtin F.init.plain F.initEntry (checkInit2 T₁ hC₁ hget rfl ?_)))
  wp_walk
  refine hq _ _ ⟨fun b o hb => ?_, Heap.get?_none_of_le (Nat.le_succ _), h.objs.size + 2, ?_, Heap.get?_none_of_le (by omega), ?_⟩
  · rw [Heap.get?_update_other _ _ (Nat.ne_of_gt (Nat.lt_succ_of_lt (Heap.lt_size hb)))]
    exact Heap.get?_push_of_some _ (Heap.get?_push_of_some _ (Heap.get?_push_of_some _ hb))
  · rw [Heap.get?_update_self _ (Heap.get?_push_of_some _ hget) rfl]
    simp only [Heap.size_push]
    rfl
  · rw [Heap.get?_update_other _ _ (show h.objs.size + 1 ≠ h.objs.size + 2 by omega)]
    exact Heap.get?_push_at (by simp only [Heap.size_push]) rfl
theorem call2 (T : OwnTail h vMro bm) {mN : Str → Option Value} {rest : List Value} {Q : Value → Shared → Prop}
    (hC : h.get? C = some (excClassObj nm q C N bs bm hdct sn sub ab col dd k0 k1 k2 k3 k5 "Exception.__new__")) (hn : h.Ns N mN) (hni : mN "__init__" = none)
    (hq : ∀ h' e, Heap.MadeExcOf h h' e (.ref C) rest → Q (.ref e) ⟨h', g, d, t, os⟩) (hrest : rest.length ≤ sizeLine) :
    wpAny (model prog w) A (call (.ref C) rest) Q E ⟨h, g, d, t, os⟩ := by
  have f1 := tc_lookup
  have f2 := tc_bind (.ref C)
  have hT : (⟨h, g, d, t, os⟩ : Shared).TypeIs (.ref C) "type" := ⟨_, hC, rfl⟩
  refine wpAny_call (codeAny_of_tree ?_)
  show wpAny _ _ (callAny (.ref C) _) _ _ _
  repeat (any_goals (first | assumption | with_reducible refine wpAny_loadPart_at hC ?_ | wp_step))
  refine ⟨rfl, ?_⟩
  refine codeAny_call_builtin_at (Code.quiet_builtin _ (by decide +kernel)) entry_typeCall (wpAny_check_type_call_sub hC (typeCall2 T hC hn hni (fun h' e hm => ?_) hrest))
  exact hq h' e hm
end

section
variable {prog : Program} {w : World} {A : Around} {E : Value → Shared → Prop} {s : Shared} {name : Str} {scope : Scope} {L a C : Addr} {cd : Value} {h₀ : Heap} {m mg : Str → Option Value} {x : Str} {np cpos pos : Pos} {Q : Flow → Shared → Prop}
theorem raise2 {e₀ : Expr} {rest : List Expr} (F : Fr h₀ L s.heap m) (hg : h₀.Ns mainGlobals mg) (O : OwnCls x C vMro "Exception.__new__" mg h₀) (hh : A.handled = none)
    (h : wpAny (model prog w) A (spliced (backTo cpos (starEach (e₀ :: rest) (envOf name scope L a cd)))) (fun vs s₂ => vs.length ≤ sizeLine ∧ (∀ b o, h₀.get? b = some o → s₂.heap.get? b = some o) ∧
      ∀ h' e, Heap.MadeExcOf s₂.heap h' e (.ref C) vs → E (.ref e) { s₂ with heap := h' }) E s)
    (he : starEach (e₀ :: rest) (envOf name scope L a cd) = (false, eval e₀ (envOf name scope L a cd)) :: starEach rest (envOf name scope L a cd) := by rfl)
    (hplain : (backTo cpos (starEach rest (envOf name scope L a cd))).any (·.1) = false := by rfl)
    (hk : scope.kind = .function := by rfl) (hx : (envOf name scope L a cd).kindOf x = some .globalImplicit := by rfl) (hd : (x == ("__debug__" : Str)) = false := by decide) :
    wpAny (model prog w) A (exec (.Raise (some (.Call (.Name x np) (e₀ :: rest) [] cpos)) none pos) (envOf name scope L a cd)) Q E s := by
  have hld := ld_own (M := model prog w) (A := A) (E := E) (pos := np) (Q := fun f s₁ => f = .ref C ∧ s₁ = s) F hg O ⟨rfl, rfl⟩ hk hx hd
  obtain ⟨tl, N, nm, q, bs, hdct, sn, sub, ab, col, dd, k0, k1, k2, k3, k5, mN, hC, hN, hni, T⟩ := O.obj
  have hbase : tl.contains (.type "BaseException") = true := T.hasType (b := true) (by decide)
  have hpl : (backTo cpos (starEach (e₀ :: rest) (envOf name scope L a cd))).any (·.1) = false := by rw [he]; show (false || (backTo cpos (starEach rest (envOf name scope L a cd))).any (·.1)) = false; rw [hplain]; rfl
  rw [arm_exec_Raise]
  refine wpAny_bind (wpAny_standAt (wpAny_raiseStmt_made_sub (C := C) (nm := nm) (q := q) (N := N) (bs := bs) (bm := tl) (hdct := hdct) (sn := sn) (sub := sub) (ab := ab) (col := col) (dd := dd) (k0 := k0) (k1 := k1) (k2 := k2) (k3 := k3) (k5 := k5) (newId := "Exception.__new__") hbase hh
    (wpAny_bind (wpAny_mono (wpAny_Call_ofName (wpAny_mono hld (fun f s₁ h₁ => ?_) fun _ _ x => x)) (fun v s₃ h₃ => wpAny_bind (wpAny_standAt (wpAny_pure h₃))) fun _ _ x => x))))
  obtain ⟨rfl, rfl⟩ := h₁
  have h₁ : wpAny (model prog w) A (evalArgs (.ref C) true (backTo cpos (starEach (e₀ :: rest) (envOf name scope L a cd))) []) (fun a s₂ => a.kw = [] ∧ a.pos.length ≤ sizeLine ∧ s₂.heap.get? C = some (excClassObj nm q C N bs tl hdct sn sub ab col dd k0 k1 k2 k3 k5 "Exception.__new__") ∧ s₂.heap.Ns N mN ∧ OwnTail s₂.heap vMro tl ∧
        ∀ h' e, Heap.MadeExcOf s₂.heap h' e (.ref C) a.pos → E (.ref e) { s₂ with heap := h' }) E s₁ := by
    rw [he] at h ⊢
    exact Calls.evalArgs_plain (wpAny_mono h (fun vs s₂ h₂ => ⟨rfl, h₂.1, h₂.2.1 _ _ hC, hN.keeps h₂.2.1, T.keeps h₂.2.1, h₂.2.2⟩) fun _ _ y => y)
  unfold callWith
  refine wpAny_bind (wpAny_holding (wpAny_mono h₁ (fun a s₂ h₂ => wpAny_bind (wpAny_standAt ?_)) fun _ _ x => x))
  obtain ⟨apos, akw⟩ := a
  obtain ⟨hkw, hlen, hC, hn, T, h₂⟩ := h₂
  obtain rfl : akw = [] := hkw
  obtain ⟨hp, g, d, tk, os⟩ := s₂
  simp only [hpl]
  refine wpAny_bind (wpAny_keeperOf_exc hC ?_)
  refine wpAny_bind (call2 T hC hn hni (fun h' e hm => wpAny_bind (wpAny_holding (wpAny_point (wpAny_pure ?_)))) hlen)
  obtain ⟨t, ht, _, _⟩ := hm.there
  exact ⟨e, t, rfl, hm.keeps _ _ hC, ht, h₂ h' e hm⟩
end
end
section
set_option maxRecDepth 100000
set_option maxHeartbeats 4000000
section
variable {prog : Program} {w : World} {M : Model} {A : Around} {E : Value → Shared → Prop} {s : Shared} {h₀ : Heap} {L : Addr} {m : Str → Option Value} {news : List (Addr × Obj)}
theorem grown2 {n k : Nat} {Q : Value → Shared → Prop} (hn : n < 2 ^ k) (hk : k ≤ 134217728) (h : Q (.int (n : Int) s.toks) { s with toks := s.toks + 1 }) : wpAny M A (mkIntGrown (n : Int)) Q E s := by
  unfold mkIntGrown
  have hl : ¬ ((n : Int).natAbs.log2 ≥ bitsLine) := by
    rw [Int.natAbs_natCast]
    have hb : bitsLine = 134217728 := by first | rfl | decide
    by_cases hz : n = 0
    · subst hz
      rw [hb]
      decide
    · have h1 := (Nat.log2_lt hz).mpr hn
      omega
  rw [if_neg hl]
  exact wpAny_mkInt h
theorem fold_two (l : List UInt8) : l.foldl (fun (acc : Nat) (b : UInt8) => acc * 256 + b.toNat) 0 < 2 ^ (8 * l.length) := by
  have h := PySem.W.KFB.fold_lt l 0
  rw [Nat.zero_add, Nat.one_mul] at h
  have e : 2 ^ (8 * l.length) = 256 ^ l.length := by rw [Nat.pow_mul]
  rw [e]; exact h
abbrev kwOrder (o : Str) (u : Tok) : List (Str × Value) := [(Str.ofString "byteorder", .str o u)]
theorem treeBig {b : Array UInt8} {t u : Tok} {P : Fin → Shared → Prop} (hl : 8 * b.size ≤ 134217728) (h : P (.done (.ret (.int (PySem.W.KFB.value (KBw.bInts b)) s.toks))) { s with toks := s.toks + 1 }) :
    wpAny M A (Builtin.«int.from_bytes» ⟨[.type "int", .bytes b t], kwOrder (Str.ofString "big") u⟩) P E s := by
  have hv : ((b.toList.foldl (fun (acc : Nat) (b : UInt8) => acc * 256 + b.toNat) 0 : Nat) : Int) = PySem.W.KFB.value (KBw.bInts b) := PySem.W.KFB.fold_cast b.toList 0
  have hn := fold_two b.toList
  rw [Array.length_toList] at hn
  unfold Builtin.«int.from_bytes»
  refine wpAny_bind (wpAny_of_eq (a := true) PySem.W.KFB.type_int ?_)
  refine PySem.W.KFB.if_not rfl ?_
  refine wpAny_bind (wpAny_of_eq (a := true) PySem.F.conv_sub_int ?_)
  refine PySem.W.KFB.if_not rfl ?_
  refine wpAny_bind (wpAny_of_eq (a := [some (.bytes b t), some (.str (Str.ofString "big") u), none]) (by kernel_rfl) ?_)
  refine wpAny_bind (wpAny_of_eq (a := Str.ofString "big") (by kernel_rfl) ?_)
  refine wpAny_bind (wpAny_of_eq (a := false) rfl ?_)
  refine wpAny_bind (wpAny_of_eq (a := false) (by kernel_rfl) ?_)
  refine wpAny_bind (wpAny_of_eq (a := b) rfl ?_)
  show wpAny _ _ (mkIntGrown (b.toList.foldl (fun (acc : Int) (b : UInt8) => acc * 256 + (b.toNat : Int)) ((0 : Nat) : Int)) >>= fun v => _) _ _ _
  rw [PySem.W.KFB.foldI_eq]
  refine wpAny_bind (grown2 hn hl ?_)
  rw [hv]
  refine PySem.W.KFB.if_so (by decide +kernel) ?_
  exact wpAny_bind (wpAny_pure (wpAny_pure h))
theorem treeLittle {b : Array UInt8} {t u : Tok} {P : Fin → Shared → Prop} (hl : 8 * b.size ≤ 134217728) (h : P (.done (.ret (.int (PySem.W.KFB.value (KBw.bInts b).reverse) s.toks))) { s with toks := s.toks + 1 }) :
    wpAny M A (Builtin.«int.from_bytes» ⟨[.type "int", .bytes b t], kwOrder (Str.ofString "little") u⟩) P E s := by
  have hv : ((b.toList.reverse.foldl (fun (acc : Nat) (b : UInt8) => acc * 256 + b.toNat) 0 : Nat) : Int) = PySem.W.KFB.value (KBw.bInts b).reverse := by
    rw [PySem.W.KFB.fold_cast, List.map_reverse]
    rfl
  have hn := fold_two b.toList.reverse
  rw [List.length_reverse, Array.length_toList] at hn
  unfold Builtin.«int.from_bytes»
  refine wpAny_bind (wpAny_of_eq (a := true) PySem.W.KFB.type_int ?_)
  refine PySem.W.KFB.if_not rfl ?_
  refine wpAny_bind (wpAny_of_eq (a := true) PySem.F.conv_sub_int ?_)
  refine PySem.W.KFB.if_not rfl ?_
  refine wpAny_bind (wpAny_of_eq (a := [some (.bytes b t), some (.str (Str.ofString "little") u), none]) (by kernel_rfl) ?_)
  refine wpAny_bind (wpAny_of_eq (a := Str.ofString "little") (by kernel_rfl) ?_)
  refine wpAny_bind (wpAny_of_eq (a := false) rfl ?_)
  refine wpAny_bind (wpAny_of_eq (a := true) (by kernel_rfl) ?_)
  refine wpAny_bind (wpAny_of_eq (a := b) rfl ?_)
  show wpAny _ _ (mkIntGrown (b.toList.reverse.foldl (fun (acc : Int) (b : UInt8) => acc * 256 + (b.toNat : Int)) ((0 : Nat) : Int)) >>= fun v => _) _ _ _
  rw [PySem.W.KFB.foldI_eq]
  refine wpAny_bind (grown2 hn hl ?_)
  rw [hv]
  refine PySem.W.KFB.if_so (by decide +kernel) ?_
  exact wpAny_bind (wpAny_pure (wpAny_pure h))
theorem checkKw {b : Array UInt8} {t u : Tok} {o : Str} : checkBoundCall "int.from_bytes" ⟨[.type "int", .bytes b t], kwOrder o u⟩ = pure () := by first | kernel_rfl | rfl
theorem callKw {x : Addr} {b : Array UInt8} {t u : Tok} {o : Str} {z : Int} {Q : Value → Shared → Prop} (ho : PySem.W.KFB.StandsAt x s.heap)
    (tree : ∀ {P : Fin → Shared → Prop} {E' : Value → Shared → Prop} {A' : Around}, P (.done (.ret (.int z s.toks))) { s with toks := s.toks + 1 } → wpAny (model prog w) A' (Builtin.«int.from_bytes» ⟨[.type "int", .bytes b t], kwOrder o u⟩) P E' s)
    (h : Q (.int z s.toks) { s with toks := s.toks + 1 }) : wpAny (model prog w) A (call (.ref x) [.bytes b t] (kwOrder o u)) Q E s := by
  refine wpAny_call (codeAny_of_tree ?_)
  show wpAny _ A.in1 (callAny (.ref x) ⟨[.bytes b t], kwOrder o u⟩) _ _ s
  simp only [callAny]
  refine wpAny_bind (wpAny_load ho ?_)
  simp only [PySem.W.KFB.bound, show (Value.type "builtin_function_or_method" == Value.type "method" || Value.type "builtin_function_or_method" == Value.type "builtin_function_or_method" || Value.type "builtin_function_or_method" == Value.type "method-wrapper") = true by decide, if_true]
  refine PySem.W.KFB.if_so (by decide) ?_
  refine wpAny_bind (wpAny_of_eq (a := ()) checkKw ?_)
  refine wpAny_bind (wpAny_pure (wpAny_pure ?_))
  exact ⟨PySem.W.KFB.quiet_fb, codeAny_builtin PySem.W.KFB.entry_fb (tree h)⟩
theorem callBig {x : Addr} {b : Array UInt8} {t u : Tok} {ks : List Int} {Q : Value → Shared → Prop} (N : News h₀ L s.heap news) (hm : (x, PySem.W.KFB.bound) ∈ news) (hb : KBw.bInts b = ks) (hl : 8 * ks.length ≤ 134217728)
    (h : ∀ t' k, Q (.int (PySem.W.KFB.value ks) t') { s with toks := k }) : wpAny (model prog w) A (call (.ref x) [.bytes b t] (kwOrder (Str.ofString "big") u)) Q E s := by
  subst hb
  exact callKw (PySem.W.KFB.at_of N hm) (fun z => treeBig (by rw [← KBw.ints_length]; exact hl) z) (h _ _)
theorem callLittle {x : Addr} {b : Array UInt8} {t u : Tok} {ks : List Int} {Q : Value → Shared → Prop} (N : News h₀ L s.heap news) (hm : (x, PySem.W.KFB.bound) ∈ news) (hb : KBw.bInts b = ks) (hl : 8 * ks.length ≤ 134217728)
    (h : ∀ t' k, Q (.int (PySem.W.KFB.value ks.reverse) t') { s with toks := k }) : wpAny (model prog w) A (call (.ref x) [.bytes b t] (kwOrder (Str.ofString "little") u)) Q E s := by
  subst hb
  exact callKw (PySem.W.KFB.at_of N hm) (fun z => treeLittle (by rw [← KBw.ints_length]; exact hl) z) (h _ _)
theorem callWithKw {pos : Pos} {u : Addr} {first : List Value} {env : Env} {e : Expr} {rest : List Expr} {kws : List Keyword} {Q : Value → Shared → Prop} (_N : News h₀ L s.heap news) (_hm : (u, PySem.W.KFB.bound) ∈ news)
    (hall : (backToKw pos (keywordEach kws env)).all (·.1.isSome) = true)
    (h : wpAny M A (spliced (backTo pos (starEach (e :: rest) env))) (fun vs s₁ => wpAny M A (evalAll ((backToKw pos (keywordEach kws env)).map (·.2)))
      (fun ks s₂ => PySem.W.KFB.StandsAt u s₂.heap ∧ wpAny M A (call (.ref u) (first ++ vs) (((backToKw pos (keywordEach kws env)).filterMap (·.1)).zip ks)) Q E s₂) E s₁) E s)
    (hplain : ((backTo pos (starEach (e :: rest) env)).any (·.1) || (backToKw pos (keywordEach kws env)).any (·.1.isNone)) = false := by rfl) (he : starEach (e :: rest) env = (false, eval e env) :: starEach rest env := by rfl) :
    wpAny M A (callWith pos (.ref u) first (backTo pos (starEach (e :: rest) env)) (backToKw pos (keywordEach kws env))) Q E s := by
  unfold callWith
  refine wpAny_bind (wpAny_holding (wpAny_mono (evalArgs_kw2 (Q := fun x s₁ => PySem.W.KFB.StandsAt u s₁.heap ∧ wpAny M A (call (.ref u) (first ++ x.pos) x.kw) Q E s₁) hall h he) (fun x s₁ h₁ => wpAny_bind (wpAny_standAt ?_)) fun _ _ x => x))
  obtain ⟨ho, hcall⟩ := h₁
  simp only [hplain]
  refine wpAny_bind (m := keeperOf (.ref u)) ?_
  unfold keeperOf
  refine wpAny_bind (wpAny_load ho ?_)
  simp only [PySem.W.KFB.bound, show (Value.type "builtin_function_or_method" != Value.type "method") = true by decide, show (Value.type "builtin_function_or_method" == Value.type "builtin_function_or_method" || Value.type "builtin_function_or_method" == Value.type "method-wrapper") = true by decide, if_true]
  refine wpAny_pure ?_
  exact wpAny_bind (wpAny_mono hcall (fun r s₂ hr => wpAny_bind (wpAny_holding (wpAny_point (wpAny_pure hr)))) fun _ _ x => x)
end
end
section
abbrev fcTop (mean : ExcName → Option Value) (mg mb : Str → Option Value) (h : Heap) : Prop :=
  Top FC.hd.view_39 (looseW FC.hd.view_39 [Str.ofString "BTClibValueError", Str.ofString "BTClibTypeError", Str.ofString "bytes_from_octets"]) mean mg mb h
/-- what a called def gives back or raises (BTClibValueError alone) -/
def SpecR (w : World) (mean : ExcName → Option Value) (mg mb : Str → Option Value) (f : Addr) (vs : List Value) (news : List (Addr × Obj)) (D U : Nat)
    (Ret : Value → List (Addr × Obj) → Prop) (Rse : List (Addr × Obj) → Prop) : Prop :=
  ∀ (dp un : Nat) (gd : Option (List Code)) (cn : Str) (cs : Scope) (a : Addr) (ccd : Value) (outer : List Env) (A₀ : Around) (base h₀ : Heap) (L : Addr) (m : Str → Option Value) (s : Shared)
    (Q E : Value → Shared → Prop),
    Below A₀ base outer h₀ → Fr h₀ L s.heap m → (FC.hd.heap_39 w.params).In h₀ → News h₀ L s.heap news →
    Top FC.hd.view_39 (looseW FC.hd.view_39 [Str.ofString "BTClibValueError", Str.ofString "BTClibTypeError", Str.ofString "bytes_from_octets"]) mean mg mb h₀ →
    cs.kind = .function → dp + D < recursionLimit → un + U < cLine →
    (∀ r news' h' tk', Fr h₀ L h' m → News h₀ L h' news' → Ret r news' → Q r { s with heap := h', toks := tk' }) →
    (∀ G e t vs h' tk' news', Fr h₀ L G m → RaisedS base G (envOf cn cs L a ccd :: outer) e (.ref 37) t vs news' h' → G.UpToSlots h' → Rse news' → E (.ref e) { s with heap := h', toks := tk' }) →
    wpAny (model PySem.Challenge.rw_fc5004_01.row.prog w) (ktrTop dp un gd cn cs L a ccd [] outer) (call (.ref f) vs) Q E s
theorem specR_use {w : World} {mean : ExcName → Option Value} {mg mb : Str → Option Value} {f : Addr} {vs : List Value} {news : List (Addr × Obj)} {D U : Nat} {Ret : Value → List (Addr × Obj) → Prop} {Rse : List (Addr × Obj) → Prop}
    (S : SpecR w mean mg mb f vs news D U Ret Rse) {dp un : Nat} {gd : Option (List Code)} {cn : Str} {cs : Scope} {a : Addr} {ccd : Value} {outer : List Env} {A₀ : Around} {base h₀ : Heap} {L : Addr} {m : Str → Option Value} {s : Shared}
    {Q E : Value → Shared → Prop} (B : Below A₀ base outer h₀) (F : Fr h₀ L s.heap m) (X : (FC.hd.heap_39 w.params).In h₀) (N : News h₀ L s.heap news)
    (T : Top FC.hd.view_39 (looseW FC.hd.view_39 [Str.ofString "BTClibValueError", Str.ofString "BTClibTypeError", Str.ofString "bytes_from_octets"]) mean mg mb h₀)
    (hk : cs.kind = .function) (hd : dp + D < recursionLimit) (hu : un + U < cLine)
    (ret : ∀ r news' h' tk', Fr h₀ L h' m → News h₀ L h' news' → Ret r news' → Q r { s with heap := h', toks := tk' })
    (rse : ∀ G e t vs h' tk' news', Fr h₀ L G m → RaisedS base G (envOf cn cs L a ccd :: outer) e (.ref 37) t vs news' h' → G.UpToSlots h' → Rse news' → E (.ref e) { s with heap := h', toks := tk' }) :
    wpAny (model PySem.Challenge.rw_fc5004_01.row.prog w) (ktrTop dp un gd cn cs L a ccd [] outer) (call (.ref f) vs) Q E s := S _ _ _ _ _ _ _ _ _ _ _ _ _ _ _ _ B F X N T hk hd hu ret rse
end
section
set_option maxRecDepth 100000
set_option maxHeartbeats 4000000
theorem sliced_rev (b : Array UInt8) : Builtin.Bytes.sliced b ((b.size : Int) - 1) (-1) (-1) = b.toList.reverse.toArray := by
  unfold Builtin.Bytes.sliced
  rw [krv_sliceRange, krv_range, List.filterMap_reverse, krv_all]
theorem meets_rev (b : Array UInt8) (t u : Tok) (a : Addr) :
    Meets (Builtin.«bytes.__getitem__» ⟨[.bytes b t, .ref a], []⟩) (fun _ R s => s.heap.IsSliceOf a .none .none (.int (-1) u) ∧ b.size ≤ sizeLine ∧ ∀ t' k, R (.ok (.ret (.bytes b.toList.reverse.toArray t'))) { s with toks := k }) := by
  refine .of_wp fun prog w A R s hS => ?_
  obtain ⟨⟨o, ho, hc, hd⟩, hsz, h⟩ := hS
  have hT : s.TypeIs (.ref a) "slice" := ⟨o, ho, hc⟩
  show wpAny _ _ (Builtin.Bytes.payload (.bytes b t) >>= fun r => _) _ _ s
  refine wpAny_bind (wpAny_of_eq (a := b) rfl ?_)
  show wpAny _ _ (Builtin.Bytes.subscript? (.ref a) >>= fun r => _) _ _ s
  refine wpAny_bind ?_
  unfold Builtin.Bytes.subscript?
  refine wpAny_bind (wpAny_specialOf hT slice_no_index (wpAny_pure ?_))
  refine wpAny_bind (wpAny_typeOf hT ?_)
  show wpAny _ _ (Builtin.Bytes.sliceParts (.ref a) >>= fun r => _) _ _ s
  refine wpAny_bind ?_
  unfold Builtin.Bytes.sliceParts
  refine wpAny_bind (wpAny_field (x := .int (-1) u) ho hd rfl ?_)
  kby_int
  refine wpAny_ite (KBy.ite_no (show ¬ ((Value.int (-1) u == rawInt 0) = true) from Bool.false_ne_true) ?_)
  refine wpAny_bind (wpAny_field (x := .none) ho hd rfl ?_)
  kby_none
  refine wpAny_bind (wpAny_field (x := .none) ho hd rfl ?_)
  kby_none
  refine wpAny_pure ?_
  have go : wpAny (model prog w) A.in1 (sliceIndices (rawPart none) (rawPart none) (rawPart (some (-1))) b.size) (fun r s' => r = sliceBounds none none (some (-1)) b.size ∧ s' = s) (fun e s' => R (.error e) s') s :=
    wpAny_of_eq (sliceIndices_raw none none (some (-1)) b.size (by decide)) ⟨rfl, rfl⟩
  refine wpAny_bind (wpAny_mono go (fun r s' hr => ?_) fun _ _ e => e)
  obtain ⟨hr1, hr2⟩ := hr
  rw [krv_bounds] at hr1
  subst hr1 hr2
  have hn : ¬ (((b.size : Int) - 1 == 0 && (-1 : Int) == 1 && (-1 : Int) == (b.size : Int) && !b.isEmpty) = true) := by simp
  refine wpAny_ite (KBy.ite_no hn ?_)
  refine wpAny_bind (wpAny_mkBytes (wpAny_pure ⟨_, rfl, ?_⟩) ?_)
  · rw [sliced_rev]; exact h _ _
  · rw [sliced_rev]; simpa using hsz
section
variable {prog : Program} {w : World} {A : Around} {E : Value → Shared → Prop} {s : Shared} {value slice : PySem.Expr} {b : Array UInt8} {t u : Tok} {h₀ : Heap} {L : Addr} {m : Str → Option Value} {news : List (Addr × Obj)} {Q : Value → Shared → Prop} {ks : List Int}
theorem rev_K (hF : Fr h₀ L s.heap m) (hN : News h₀ L s.heap news) (hk : KBw.bInts b = ks) (hz : ks.length ≤ 16777216)
    (h : ∀ h' t' k, Fr h₀ L h' m → News h₀ L h' news → KBw.bInts b.toList.reverse.toArray = ks.reverse → Q (.bytes b.toList.reverse.toArray t') { s with heap := h', toks := k })
    (hs : subscripted slice false (.bytes b t) (.ref s.heap.objs.size) = operate [.ref s.heap.objs.size, .bytes b t] (getItem (.bytes b t) (.ref s.heap.objs.size)) := by with_unfolding_all rfl)
    (ht : ∀ r, letTemporaryGo value (.bytes b t) r = pure () := by intro _; with_unfolding_all rfl) :
    wpAny (model prog w) A (subscriptTail value slice (.bytes b t) (.ref s.heap.objs.size)) Q E { s with heap := s.heap.push { cls := .type "slice", data := .fields #[.none, .none, .int (-1) u] } } :=
  tail_of_ItemOn ⟨"bytes", _, FB.slot_bytes_getitem.lookup, PySem.W.typeIs_bytes _ _ _, getItem_meets (PySem.W.typeIs_bytes _ _ _) (by decide) FB.slot_bytes_getitem FB.entry_bytes_getitem (FB.args_bytes_getitem_2 _ _) (meets_rev b t u _)
    ⟨Heap.IsSliceOf.new _ _ _ _, by rw [← KBw.ints_length b, hk, sizeLine_eq]; exact hz, fun t' k => h _ _ _ (hF.push _) (News.pushKeep hN _) (by rw [← hk]; simp [KBw.bInts])⟩⟩ hs ht
end
end
section
set_option maxRecDepth 100000
set_option maxHeartbeats 8000000
local macro_rules | `(tactic| walk_at "fc enter") => `(tactic| k_dflt (first
  | (refine' code_def ?k1 ?k2 ?k3 ?k4 ?k5 ?kA ?kF ?kK ?k6 ?k7 ?k8 ?k9 ?kB ?_ ?c2 ?c3 ?c4 ?c5; (case kA => exact rfl); (case kF => exact rfl); (case kK => first | exact rfl | assumption); (case k1 => k_asm); (case k2 => k_asm); (case k3 => k_asm); (case k4 => k_asm); (case k5 => k_asm); (case k6 => k_is); (case k7 => k_is); (case k8 => ktr_room); (case k9 => first | exact BindsTo.of_eq rfl | exact binds_K (by k_in) rfl (by k_is) rfl rfl rfl); (case c5 => decide); (case kB => exact locs rfl); (case c2 => exact rfl); (case c3 => exact rfl); (case c4 => exact rfl); k_whole; intro g' L' h' FG' F' N' B' X' T'; (try dsimp only); (try k_lift B'); (try k_fold))
  | (refine' code_defC ?k1 ?k2 ?k3 ?k4 ?k5 ?kA ?kF ?kK ?k6 ?k7 ?k8 ?k9 ?kB ?kD ?_ ?c2 ?c3 ?c4; (case kA => exact rfl); (case kF => exact rfl); (case kK => first | exact rfl | assumption); (case k1 => k_asm); (case k2 => k_asm); (case k3 => k_asm); (case k4 => k_asm); (case k5 => k_asm); (case k6 => k_is); (case k7 => k_is); (case k8 => ktr_room); (case k9 => first | exact BindsTo.of_eq rfl | exact binds_K (by k_in) rfl (by k_is) rfl rfl rfl); (case kB => exact rfl); (case kD => decide +kernel); (case c2 => exact rfl); (case c3 => exact rfl); (case c4 => exact rfl); k_whole; intro g' L' h' tk' cells' FG' F' N' Y' B' X' T' l1; (try k_lt l1); k_cells Y'; (try simp only [List.cons_append, List.nil_append] at N'); (try dsimp only); (try k_lift B'); (try k_fold))))
local macro_rules | `(tactic| walk_at "fc enterW") => `(tactic| k_dflt (
  (refine' code_defW ?k1 ?k2 ?k3 ?k4 ?k5 ?kA ?kF ?kK ?k6 ?k7 ?k8 ?k9 ?kB ?_ ?c2 ?c3 ?c4 ?c5; (case kA => exact rfl); (case kF => exact rfl); (case kK => first | exact rfl | assumption); (case k1 => k_asm); (case k2 => k_asm); (case k3 => k_asm); (case k4 => k_asm); (case k5 => k_asm); (case k6 => k_is); (case k7 => k_is); (case k8 => ktr_room); (case k9 => first | exact BindsTo.of_eq rfl | exact binds_K (by k_in) rfl (by k_is) rfl rfl rfl); (case c5 => decide); (case kB => exact locs rfl); (case c2 => exact rfl); (case c3 => exact rfl); (case c4 => exact rfl); k_whole; intro g' L' h' tk' FG' F' N' B' X' T' l1; (try k_lt l1); (try dsimp only); (try k_lift B'))))
local macro_rules | `(tactic| k_all) => `(tactic| exact off_of_lt (by with_reducible assumption))
local macro_rules | `(tactic| k_all) => `(tactic| with_reducible assumption)
local macro_rules | `(tactic| walk_at "fc sub") => `(tactic| (intro p9 h9; simp only [List.mem_cons, List.mem_append] at h9 ⊢; grind))
local macro_rules | `(tactic| walk_at "fc led") => `(tactic| first
  | exact List.forall_mem_nil _
  | (refine' List.forall_mem_cons.mpr ⟨?fa, ?fb⟩; (case fa => k_mem); (case fb => walk_at "fc led"))
  | (intro p9 h9; repeat (first | exact h9 | refine List.Mem.tail _ ?_)))
local macro_rules | `(tactic| walk_at "exec While") => `(tactic| (rename ParkWhile => z9; clear z9; refine Parked.go ?_))
local macro_rules | `(tactic| walk_at "exec Try") => `(tactic| (rename ParkTry => z9; clear z9; refine Parked.go ?_))
local macro_rules | `(tactic| walk_at "exec For") => `(tactic| (rename ParkFor => z9; clear z9; refine Parked.go ?_))
local macro_rules | `(tactic| walk_at "exec For Name Call") => `(tactic| (rename ParkFor => z9; clear z9; refine Parked.go ?_))
local macro_rules | `(tactic| walk_at "exec For Name Call cons nil") => `(tactic| (rename ParkFor => z9; clear z9; refine Parked.go ?_))
local macro_rules | `(tactic| walk_at "exec For Name Name") => `(tactic| (rename ParkFor => z9; clear z9; refine Parked.go ?_))
local macro_rules | `(tactic| walk_at "exec For Name Name cons nil") => `(tactic| (rename ParkFor => z9; clear z9; refine Parked.go ?_))
local macro_rules | `(tactic| walk_at "exec For Name List cons nil") => `(tactic| (rename ParkFor => z9; clear z9; refine Parked.go ?_))
local macro_rules | `(tactic| walk_at "fc pick") => `(tactic| first | k_asm | (rename News _ _ _ _ => z9; exact cb_drop z9 (by walk_at "fc led")))
local macro_rules | `(tactic| walk_at "fc room") => `(tactic| first | omega | ((try simp only [depth_under_make, depth_under_kw, depth_in1, depth_deeper, depth_caller]); (try dsimp only [ktrTop]); omega) | ktr_room)
local macro_rules | `(tactic| walk_at "fc units") => `(tactic| first | omega | (have hcL9 := cLine_is; (try simp only [units_in1, units_deeper, Around.mark_units, units_caller]); (try dsimp only [ktrTop]); omega) | ktr_units)

local macro_rules | `(tactic| walk_at "exec Raise some none") => `(tactic| (k_here; (with_reducible show wpAny _ _ (exec (Stmt.Raise (some (Expr.Call (Expr.Name _ _) (_ :: _) [] _)) none _) _) _ _ _); k_dflt (refine' raise2 ?F ?g ?O ?h ?_ ?a ?b ?c ?d ?e; (case F => k_asm); (case g => exact TopRead.g (by k_asm)); (case O => exact own_of_in (by k_asm) (by k_asm) (by k_is) (by k_exc)); (case h => first | rfl | assumption); (case a => rfl); (case b => rfl); (case c => rfl); (case d => rfl); (case e => decide); k_whole)))
local macro_rules | `(tactic| walk_at "leaving ref") => `(tactic| (k_here; (refine' leave_raiseS ?k1 ?k0 ?k2 ?k3 ?_; (case k0 => assumption); (case k2 => assumption); (case k1 => assumption); (case k3 => k_asm); k_whole; intro h' t' S' R' U'; (try dsimp only at S' R' U' ⊢))))
local macro_rules | `(tactic| walk_at "callWith ref") => `(tactic| (k_here; (with_reducible show wpAny _ _ (callWith _ (Value.ref _) _ (backTo _ (starEach (_ :: _) _)) (backToKw _ (keywordEach (_ :: _) _))) _ _ _); kfb_any; k_dflt (refine' callWithKw ?kfbN ?kfbM ?kfbA ?_; (case kfbN => k_asm); (case kfbM => k_mem); (case kfbA => exact rfl); k_whole)))
local macro_rules | `(tactic| walk_at "call ref") => `(tactic| (k_here; (with_reducible show wpAny _ _ (call (Value.ref _) [Value.bytes _ _] (_ :: _)) _ _ _); kfb_any; k_dflt (first
  | (refine callBig (by k_asm) (by k_mem) (by kba_ints2) (by kba_size) ?_)
  | (refine callLittle (by k_asm) (by k_mem) (by kba_ints2) (by kba_size) ?_)); intro _ _))
local macro_rules | `(tactic| walk_at "subscriptTail") => `(tactic| (k_here; (with_reducible show wpAny _ _ (subscriptTail _ (PySem.Expr.Slice none none (some _) _) (Value.bytes _ _) (Value.ref _)) _ _ _); (with_reducible rename Fr _ _ _ _ => F'); (with_reducible rename News _ _ _ _ => N'); (refine rev_K (s := ⟨_, _, _, _, _⟩) F' N' (by kba_ints) (by kba_size) ?_); intro _ _ _ _ _ kbcK))

abbrev rDict (h1 h2 h3 : Int) (k1 k2 k3 : Tok) (bs : Array UInt8) (tb : Tok) (n : Int) (tn : Tok) (p : Int) (tp : Tok) : Obj :=
  dictOf [⟨h1, .str (Str.ofString "_octets") k1, .bytes bs tb⟩, ⟨h2, .str (Str.ofString "_bit_count") k2, .int n tn⟩, ⟨h3, .str (Str.ofString "_position") k3, .int p tp⟩] 3
local macro_rules | `(tactic| walk_at "joinParts") => `(tactic| ((first | (with_reducible show wpAny _ _ (joinParts _ []) _ _ _) | (with_reducible show wpAny _ _ (joinParts _ (evalEach [] _)) _ _ _)); k_dflt ((refine joinParts_nil ?_ ?hsz); (case hsz => kt_le))))
theorem spec_read {w : World} {mean : ExcName → Option Value} {mg mb : Str → Option Value} {news : List (Addr × Obj)} {x dx : Addr} {h1 h2 h3 : Int} {k1 k2 k3 tb tn tp tc : Tok} {bs : Array UInt8} {bits : List Int} {p c : Nat} (hxd : @Ne Nat x dx) (offd : ∀ p ∈ news, p.1 ≠ dx)
    (hbs : KBw.bInts bs = octs bits) (hb : IsBits bits) (h8 : bits.length % 8 = 0) (hz : bits.length < 100000) (hp : p ≤ bits.length) (hc : c < 200000) :
    SpecR w mean mg mb 157 [.ref x, .int (c : Int) tc] ((x, instObj 167 dx) :: (dx, rDict h1 h2 h3 k1 k2 k3 bs tb (bits.length : Int) tn (p : Int) tp) :: news) 10 100
      (fun r news' => p + c ≤ bits.length ∧ ∃ t tp', r = .int (num ((bits.drop p).take c)) t ∧ news' = (x, instObj 167 dx) :: (dx, rDict h1 h2 h3 k1 k2 k3 bs tb (bits.length : Int) tn ((p + c : Nat) : Int) tp') :: news)
      (fun news' => bits.length < p + c ∧ news' = (x, instObj 167 dx) :: (dx, rDict h1 h2 h3 k1 k2 k3 bs tb (bits.length : Int) tn (p : Int) tp) :: news) := by
  have hlo : (octs bits).length < 20000 := by rw [octs_length]; omega
  unfold SpecR
  k_fill
  intro dp un gd cn cs a ccd outer A₀ base h₀ L m s Q E B F X N T hk hd hu hret hrse
  refine wpAny_call ?_
  walk_at "fc enter"
  k_steps
  · rename ((bits.length : Int) < (p : Int) + (c : Int)) => hgt
    rename RaisedS _ _ _ _ _ _ _ _ _ => hS
    rename Heap.UpToSlots _ _ => hU
    refine hrse _ _ _ _ _ _ _ ?_ hS hU ⟨by omega, rfl⟩
    assumption
  · rename (¬ ((bits.length : Int) < (p : Int) + (c : Int))) => hle
    rename (KBw.bInts _ = List.take _ _) => hK
    have e1 : clipAt (octs bits).length ((p : Int).fdiv 8) = p / 8 := by
      rw [show (p : Int).fdiv 8 = ((p / 8 : Nat) : Int) by rw [Int.fdiv_eq_ediv_of_nonneg _ (by decide)]; omega, clipAt_nat, octs_length]; omega
    have e2 : clipAt (octs bits).length (((p : Int) + (c : Int) + 7).fdiv 8) = (p + c + 7) / 8 := by
      rw [show ((p : Int) + (c : Int) + 7).fdiv 8 = (((p + c + 7) / 8 : Nat) : Int) by rw [Int.fdiv_eq_ediv_of_nonneg _ (by decide)]; omega, clipAt_nat, octs_length]; omega
    rw [e1, e2] at hK
    refine callBig (by k_asm) (by k_mem) hK (by rw [List.length_take, List.length_drop, octs_length]; omega) fun t9 k9 => ?_
    have hval := read_value hb h8 (p := p) (c := c) (by omega)
    generalize PySem.W.KFB.value (((octs bits).drop (p / 8)).take ((p + c + 7) / 8 - p / 8)) = V at hval ⊢
    k_steps
    rename News h₀ L _ _ => kN
    rename Fr h₀ L _ m => kF
    rw [Int.toNat_natCast, hval]
    exact hret _ _ _ _ kF (cb_drop (news := (x, instObj 167 dx) :: (dx, rDict h1 h2 h3 k1 k2 k3 bs tb (bits.length : Int) tn ((p + c : Nat) : Int) _) :: news) kN (by walk_at "fc led")) ⟨by omega, _, _, rfl, rfl⟩
end
section
set_option maxRecDepth 100000
set_option maxHeartbeats 1500000
local macro_rules | `(tactic| walk_at "fc enter") => `(tactic| k_dflt (first
  | (refine' code_def ?k1 ?k2 ?k3 ?k4 ?k5 ?kA ?kF ?kK ?k6 ?k7 ?k8 ?k9 ?kB ?_ ?c2 ?c3 ?c4 ?c5; (case kA => exact rfl); (case kF => exact rfl); (case kK => first | exact rfl | assumption); (case k1 => k_asm); (case k2 => k_asm); (case k3 => k_asm); (case k4 => k_asm); (case k5 => k_asm); (case k6 => k_is); (case k7 => k_is); (case k8 => ktr_room); (case k9 => first | exact BindsTo.of_eq rfl | exact binds_K (by k_in) rfl (by k_is) rfl rfl rfl); (case c5 => decide); (case kB => exact locs rfl); (case c2 => exact rfl); (case c3 => exact rfl); (case c4 => exact rfl); k_whole; intro g' L' h' FG' F' N' B' X' T'; (try dsimp only); (try k_lift B'); (try k_fold))
  | (refine' code_defC ?k1 ?k2 ?k3 ?k4 ?k5 ?kA ?kF ?kK ?k6 ?k7 ?k8 ?k9 ?kB ?kD ?_ ?c2 ?c3 ?c4; (case kA => exact rfl); (case kF => exact rfl); (case kK => first | exact rfl | assumption); (case k1 => k_asm); (case k2 => k_asm); (case k3 => k_asm); (case k4 => k_asm); (case k5 => k_asm); (case k6 => k_is); (case k7 => k_is); (case k8 => ktr_room); (case k9 => first | exact BindsTo.of_eq rfl | exact binds_K (by k_in) rfl (by k_is) rfl rfl rfl); (case kB => exact rfl); (case kD => decide +kernel); (case c2 => exact rfl); (case c3 => exact rfl); (case c4 => exact rfl); k_whole; intro g' L' h' tk' cells' FG' F' N' Y' B' X' T' l1; (try k_lt l1); k_cells Y'; (try simp only [List.cons_append, List.nil_append] at N'); (try dsimp only); (try k_lift B'); (try k_fold))))
local macro_rules | `(tactic| walk_at "fc enterW") => `(tactic| k_dflt (
  (refine' code_defW ?k1 ?k2 ?k3 ?k4 ?k5 ?kA ?kF ?kK ?k6 ?k7 ?k8 ?k9 ?kB ?_ ?c2 ?c3 ?c4 ?c5; (case kA => exact rfl); (case kF => exact rfl); (case kK => first | exact rfl | assumption); (case k1 => k_asm); (case k2 => k_asm); (case k3 => k_asm); (case k4 => k_asm); (case k5 => k_asm); (case k6 => k_is); (case k7 => k_is); (case k8 => ktr_room); (case k9 => first | exact BindsTo.of_eq rfl | exact binds_K (by k_in) rfl (by k_is) rfl rfl rfl); (case c5 => decide); (case kB => exact locs rfl); (case c2 => exact rfl); (case c3 => exact rfl); (case c4 => exact rfl); k_whole; intro g' L' h' tk' FG' F' N' B' X' T' l1; (try k_lt l1); (try dsimp only); (try k_lift B'))))
local macro_rules | `(tactic| k_all) => `(tactic| exact off_of_lt (by with_reducible assumption))
local macro_rules | `(tactic| k_all) => `(tactic| with_reducible assumption)
local macro_rules | `(tactic| walk_at "fc sub") => `(tactic| (intro p9 h9; simp only [List.mem_cons, List.mem_append] at h9 ⊢; grind))
local macro_rules | `(tactic| walk_at "fc led") => `(tactic| first
  | exact List.forall_mem_nil _
  | (refine' List.forall_mem_cons.mpr ⟨?fa, ?fb⟩; (case fa => k_mem); (case fb => walk_at "fc led"))
  | (intro p9 h9; repeat (first | exact h9 | refine List.Mem.tail _ ?_)))
local macro_rules | `(tactic| walk_at "exec While") => `(tactic| (rename ParkWhile => z9; clear z9; refine Parked.go ?_))
local macro_rules | `(tactic| walk_at "exec Try") => `(tactic| (rename ParkTry => z9; clear z9; refine Parked.go ?_))
local macro_rules | `(tactic| walk_at "exec For") => `(tactic| (rename ParkFor => z9; clear z9; refine Parked.go ?_))
local macro_rules | `(tactic| walk_at "exec For Name Call") => `(tactic| (rename ParkFor => z9; clear z9; refine Parked.go ?_))
local macro_rules | `(tactic| walk_at "exec For Name Call cons nil") => `(tactic| (rename ParkFor => z9; clear z9; refine Parked.go ?_))
local macro_rules | `(tactic| walk_at "exec For Name Name") => `(tactic| (rename ParkFor => z9; clear z9; refine Parked.go ?_))
local macro_rules | `(tactic| walk_at "exec For Name Name cons nil") => `(tactic| (rename ParkFor => z9; clear z9; refine Parked.go ?_))
local macro_rules | `(tactic| walk_at "exec For Name List cons nil") => `(tactic| (rename ParkFor => z9; clear z9; refine Parked.go ?_))
local macro_rules | `(tactic| walk_at "fc pick") => `(tactic| first | k_asm | (rename News _ _ _ _ => z9; exact cb_drop z9 (by walk_at "fc led")))
local macro_rules | `(tactic| walk_at "fc room") => `(tactic| first | omega | ((try simp only [depth_under_make, depth_under_kw, depth_in1, depth_deeper, depth_caller]); (try dsimp only [ktrTop]); omega) | ktr_room)
local macro_rules | `(tactic| walk_at "fc units") => `(tactic| first | omega | (have hcL9 := cLine_is; (try simp only [units_in1, units_deeper, Around.mark_units, units_caller]); (try dsimp only [ktrTop]); omega) | ktr_units)

local macro_rules | `(tactic| walk_at "exec Raise some none") => `(tactic| (k_here; (with_reducible show wpAny _ _ (exec (Stmt.Raise (some (Expr.Call (Expr.Name _ _) (_ :: _) [] _)) none _) _) _ _ _); k_dflt (refine' raise2 ?F ?g ?O ?h ?_ ?a ?b ?c ?d ?e; (case F => k_asm); (case g => exact TopRead.g (by k_asm)); (case O => exact own_of_in (by k_asm) (by k_asm) (by k_is) (by k_exc)); (case h => first | rfl | assumption); (case a => rfl); (case b => rfl); (case c => rfl); (case d => rfl); (case e => decide); k_whole)))
local macro_rules | `(tactic| walk_at "leaving ref") => `(tactic| (k_here; (refine' leave_raiseS ?k1 ?k0 ?k2 ?k3 ?_; (case k0 => assumption); (case k2 => assumption); (case k1 => assumption); (case k3 => k_asm); k_whole; intro h' t' S' R' U'; (try dsimp only at S' R' U' ⊢))))
local macro_rules | `(tactic| walk_at "callWith ref") => `(tactic| (k_here; (with_reducible show wpAny _ _ (callWith _ (Value.ref _) _ (backTo _ (starEach (_ :: _) _)) (backToKw _ (keywordEach (_ :: _) _))) _ _ _); kfb_any; k_dflt (refine' callWithKw ?kfbN ?kfbM ?kfbA ?_; (case kfbN => k_asm); (case kfbM => k_mem); (case kfbA => exact rfl); k_whole)))
local macro_rules | `(tactic| walk_at "call ref") => `(tactic| (k_here; (with_reducible show wpAny _ _ (call (Value.ref _) [Value.bytes _ _] (_ :: _)) _ _ _); kfb_any; k_dflt (first
  | (refine callBig (by k_asm) (by k_mem) (by kba_ints2) (by kba_size) ?_)
  | (refine callLittle (by k_asm) (by k_mem) (by kba_ints2) (by kba_size) ?_)); intro _ _))
local macro_rules | `(tactic| walk_at "subscriptTail") => `(tactic| (k_here; (with_reducible show wpAny _ _ (subscriptTail _ (PySem.Expr.Slice none none (some _) _) (Value.bytes _ _) (Value.ref _)) _ _ _); (with_reducible rename Fr _ _ _ _ => F'); (with_reducible rename News _ _ _ _ => N'); (refine rev_K (s := ⟨_, _, _, _, _⟩) F' N' (by kba_ints) (by kba_size) ?_); intro _ _ _ _ _ kbcK))

theorem spec_newReader {w : World} {mean : ExcName → Option Value} {mg mb : Str → Option Value} {news : List (Addr × Obj)} {bs : Array UInt8} {bits : List Int} {t : Tok} (hbs : KBw.bInts bs = octs bits) (h8 : bits.length % 8 = 0) (hz : bits.length < 100000) :
    Spec w mean mg mb 167 [.bytes bs t] news 10 100 (fun r news' => ∃ x dx h1 h2 h3 k1 k2 k3 tb tn tp, r = .ref x ∧
      news' = (x, instObj 167 dx) :: (dx, rDict h1 h2 h3 k1 k2 k3 bs tb (bits.length : Int) tn ((0 : Nat) : Int) tp) :: news ∧ (∀ p ∈ news, p.1 < dx) ∧ dx < x) := by
  have hlo : (octs bits).length < 20000 := by rw [octs_length]; omega
  unfold Spec
  k_fill
  intro dp un gd cn cs a ccd cl outer A₀ base h₀ L m s Q E B F X N T hk hd hu hret
  refine' call_cls ?k1 ?k2 ?k3 ?k4 ?k5 ?k6 ?_
  case k1 => k_asm
  case k2 => k_asm
  case k3 => k_asm
  case k4 => k_is
  case k5 => k_is
  case k6 => k_is
  intro x' d' h' F' N' l1 l2
  have l1' := l1
  have l2' := l2
  try k_lt l1'
  try k_lt2 l2'
  walk_at "fc enter"
  k_steps
  rename News h₀ L _ _ => kN
  rename Fr h₀ L _ m => kF
  have e : (8 : Int) * ((octs bits).length : Int) = (bits.length : Int) := by rw [octs_length]; omega
  rw [e] at kN
  exact hret _ _ _ _ kF (cb_drop (news := (x', instObj 167 d') :: (d', rDict _ _ _ _ _ _ bs _ (bits.length : Int) _ ((0 : Nat) : Int) _) :: news) kN (by walk_at "fc led")) ⟨_, _, _, _, _, _, _, _, _, _, _, rfl, rfl, l1, l2⟩
end
section
set_option maxRecDepth 100000
set_option maxHeartbeats 1500000
local macro_rules | `(tactic| walk_at "fc enter") => `(tactic| k_dflt (first
  | (refine' code_def ?k1 ?k2 ?k3 ?k4 ?k5 ?kA ?kF ?kK ?k6 ?k7 ?k8 ?k9 ?kB ?_ ?c2 ?c3 ?c4 ?c5; (case kA => exact rfl); (case kF => exact rfl); (case kK => first | exact rfl | assumption); (case k1 => k_asm); (case k2 => k_asm); (case k3 => k_asm); (case k4 => k_asm); (case k5 => k_asm); (case k6 => k_is); (case k7 => k_is); (case k8 => ktr_room); (case k9 => first | exact BindsTo.of_eq rfl | exact binds_K (by k_in) rfl (by k_is) rfl rfl rfl); (case c5 => decide); (case kB => exact locs rfl); (case c2 => exact rfl); (case c3 => exact rfl); (case c4 => exact rfl); k_whole; intro g' L' h' FG' F' N' B' X' T'; (try dsimp only); (try k_lift B'); (try k_fold))
  | (refine' code_defC ?k1 ?k2 ?k3 ?k4 ?k5 ?kA ?kF ?kK ?k6 ?k7 ?k8 ?k9 ?kB ?kD ?_ ?c2 ?c3 ?c4; (case kA => exact rfl); (case kF => exact rfl); (case kK => first | exact rfl | assumption); (case k1 => k_asm); (case k2 => k_asm); (case k3 => k_asm); (case k4 => k_asm); (case k5 => k_asm); (case k6 => k_is); (case k7 => k_is); (case k8 => ktr_room); (case k9 => first | exact BindsTo.of_eq rfl | exact binds_K (by k_in) rfl (by k_is) rfl rfl rfl); (case kB => exact rfl); (case kD => decide +kernel); (case c2 => exact rfl); (case c3 => exact rfl); (case c4 => exact rfl); k_whole; intro g' L' h' tk' cells' FG' F' N' Y' B' X' T' l1; (try k_lt l1); k_cells Y'; (try simp only [List.cons_append, List.nil_append] at N'); (try dsimp only); (try k_lift B'); (try k_fold))))
local macro_rules | `(tactic| walk_at "fc enterW") => `(tactic| k_dflt (
  (refine' code_defW ?k1 ?k2 ?k3 ?k4 ?k5 ?kA ?kF ?kK ?k6 ?k7 ?k8 ?k9 ?kB ?_ ?c2 ?c3 ?c4 ?c5; (case kA => exact rfl); (case kF => exact rfl); (case kK => first | exact rfl | assumption); (case k1 => k_asm); (case k2 => k_asm); (case k3 => k_asm); (case k4 => k_asm); (case k5 => k_asm); (case k6 => k_is); (case k7 => k_is); (case k8 => ktr_room); (case k9 => first | exact BindsTo.of_eq rfl | exact binds_K (by k_in) rfl (by k_is) rfl rfl rfl); (case c5 => decide); (case kB => exact locs rfl); (case c2 => exact rfl); (case c3 => exact rfl); (case c4 => exact rfl); k_whole; intro g' L' h' tk' FG' F' N' B' X' T' l1; (try k_lt l1); (try dsimp only); (try k_lift B'))))
local macro_rules | `(tactic| k_all) => `(tactic| exact off_of_lt (by with_reducible assumption))
local macro_rules | `(tactic| k_all) => `(tactic| with_reducible assumption)
local macro_rules | `(tactic| walk_at "fc sub") => `(tactic| (intro p9 h9; simp only [List.mem_cons, List.mem_append] at h9 ⊢; grind))
local macro_rules | `(tactic| walk_at "fc led") => `(tactic| first
  | exact List.forall_mem_nil _
  | (refine' List.forall_mem_cons.mpr ⟨?fa, ?fb⟩; (case fa => k_mem); (case fb => walk_at "fc led"))
  | (intro p9 h9; repeat (first | exact h9 | refine List.Mem.tail _ ?_)))
local macro_rules | `(tactic| walk_at "exec While") => `(tactic| (rename ParkWhile => z9; clear z9; refine Parked.go ?_))
local macro_rules | `(tactic| walk_at "exec Try") => `(tactic| (rename ParkTry => z9; clear z9; refine Parked.go ?_))
local macro_rules | `(tactic| walk_at "exec For") => `(tactic| (rename ParkFor => z9; clear z9; refine Parked.go ?_))
local macro_rules | `(tactic| walk_at "exec For Name Call") => `(tactic| (rename ParkFor => z9; clear z9; refine Parked.go ?_))
local macro_rules | `(tactic| walk_at "exec For Name Call cons nil") => `(tactic| (rename ParkFor => z9; clear z9; refine Parked.go ?_))
local macro_rules | `(tactic| walk_at "exec For Name Name") => `(tactic| (rename ParkFor => z9; clear z9; refine Parked.go ?_))
local macro_rules | `(tactic| walk_at "exec For Name Name cons nil") => `(tactic| (rename ParkFor => z9; clear z9; refine Parked.go ?_))
local macro_rules | `(tactic| walk_at "exec For Name List cons nil") => `(tactic| (rename ParkFor => z9; clear z9; refine Parked.go ?_))
local macro_rules | `(tactic| walk_at "fc pick") => `(tactic| first | k_asm | (rename News _ _ _ _ => z9; exact cb_drop z9 (by walk_at "fc led")))
local macro_rules | `(tactic| walk_at "fc room") => `(tactic| first | omega | ((try simp only [depth_under_make, depth_under_kw, depth_in1, depth_deeper, depth_caller]); (try dsimp only [ktrTop]); omega) | ktr_room)
local macro_rules | `(tactic| walk_at "fc units") => `(tactic| first | omega | (have hcL9 := cLine_is; (try simp only [units_in1, units_deeper, Around.mark_units, units_caller]); (try dsimp only [ktrTop]); omega) | ktr_units)

local macro_rules | `(tactic| walk_at "exec Raise some none") => `(tactic| (k_here; (with_reducible show wpAny _ _ (exec (Stmt.Raise (some (Expr.Call (Expr.Name _ _) (_ :: _) [] _)) none _) _) _ _ _); k_dflt (refine' raise2 ?F ?g ?O ?h ?_ ?a ?b ?c ?d ?e; (case F => k_asm); (case g => exact TopRead.g (by k_asm)); (case O => exact own_of_in (by k_asm) (by k_asm) (by k_is) (by k_exc)); (case h => first | rfl | assumption); (case a => rfl); (case b => rfl); (case c => rfl); (case d => rfl); (case e => decide); k_whole)))
local macro_rules | `(tactic| walk_at "leaving ref") => `(tactic| (k_here; (refine' leave_raiseS ?k1 ?k0 ?k2 ?k3 ?_; (case k0 => assumption); (case k2 => assumption); (case k1 => assumption); (case k3 => k_asm); k_whole; intro h' t' S' R' U'; (try dsimp only at S' R' U' ⊢))))
local macro_rules | `(tactic| walk_at "callWith ref") => `(tactic| (k_here; (with_reducible show wpAny _ _ (callWith _ (Value.ref _) _ (backTo _ (starEach (_ :: _) _)) (backToKw _ (keywordEach (_ :: _) _))) _ _ _); kfb_any; k_dflt (refine' callWithKw ?kfbN ?kfbM ?kfbA ?_; (case kfbN => k_asm); (case kfbM => k_mem); (case kfbA => exact rfl); k_whole)))
local macro_rules | `(tactic| walk_at "call ref") => `(tactic| (k_here; (with_reducible show wpAny _ _ (call (Value.ref _) [Value.bytes _ _] (_ :: _)) _ _ _); kfb_any; k_dflt (first
  | (refine callBig (by k_asm) (by k_mem) (by kba_ints2) (by kba_size) ?_)
  | (refine callLittle (by k_asm) (by k_mem) (by kba_ints2) (by kba_size) ?_)); intro _ _))
local macro_rules | `(tactic| walk_at "subscriptTail") => `(tactic| (k_here; (with_reducible show wpAny _ _ (subscriptTail _ (PySem.Expr.Slice none none (some _) _) (Value.bytes _ _) (Value.ref _)) _ _ _); (with_reducible rename Fr _ _ _ _ => F'); (with_reducible rename News _ _ _ _ => N'); (refine rev_K (s := ⟨_, _, _, _, _⟩) F' N' (by kba_ints) (by kba_size) ?_); intro _ _ _ _ _ kbcK))

theorem msgLen {n : Int} (h0 : 0 ≤ n) (h1 : n < 100000) : (Str.empty ++ Str.ofString (toString n) ++ Str.ofString " bytes after the block filter").length ≤ sizeLine := by
  refine Nat.le_trans (KT.len_app (KT.len_app (Nat.le_refl _) (KT.len_num h0 (Int.lt_of_lt_of_le h1 (by decide)))) (Nat.le_refl _)) ?_
  rw [sizeLine_eq]
  decide
local macro_rules | `(tactic| walk_at "joinParts") => `(tactic| (refine joinParts_nilE ?_; refine joinParts_nil ?_ (msgLen (by assumption) (by assumption))))
theorem spec_exhausted {w : World} {mean : ExcName → Option Value} {mg mb : Str → Option Value} {news : List (Addr × Obj)} {x dx : Addr} {h1 h2 h3 : Int} {k1 k2 k3 tb tn tp : Tok} {bs : Array UInt8} {bits : List Int} {p : Nat} (hxd : @Ne Nat x dx) (offd : ∀ p ∈ news, p.1 ≠ dx)
    (hbs : KBw.bInts bs = octs bits) (hb : IsBits bits) (h8 : bits.length % 8 = 0) (hz : bits.length < 100000) (hp : p ≤ bits.length) :
    SpecR w mean mg mb 164 [.ref x] ((x, instObj 167 dx) :: (dx, rDict h1 h2 h3 k1 k2 k3 bs tb (bits.length : Int) tn (p : Int) tp) :: news) 30 300
      (fun r news' => r = .none ∧ bits.length < p + 8 ∧ num (bits.drop p) = 0 ∧ ∃ tp', news' = (x, instObj 167 dx) :: (dx, rDict h1 h2 h3 k1 k2 k3 bs tb (bits.length : Int) tn (bits.length : Int) tp') :: news)
      (fun news' => (p + 8 ≤ bits.length ∧ news' = (x, instObj 167 dx) :: (dx, rDict h1 h2 h3 k1 k2 k3 bs tb (bits.length : Int) tn (p : Int) tp) :: news) ∨
        (bits.length < p + 8 ∧ num (bits.drop p) ≠ 0 ∧ ∃ tp', news' = (x, instObj 167 dx) :: (dx, rDict h1 h2 h3 k1 k2 k3 bs tb (bits.length : Int) tn (bits.length : Int) tp') :: news)) := by
  unfold SpecR
  k_fill
  intro dp un gd cn cs a ccd outer A₀ base h₀ L m s Q E B F X N T hk hd hu hret hrse
  refine wpAny_call ?_
  walk_at "fc enter"
  have f1 : 0 ≤ ((bits.length : Int) - (p : Int)).fdiv 8 := by rw [Int.fdiv_eq_ediv_of_nonneg _ (by decide)]; omega
  have f2 : ((bits.length : Int) - (p : Int)).fdiv 8 < 100000 := by rw [Int.fdiv_eq_ediv_of_nonneg _ (by decide)]; omega
  k_steps
  · rename (8 ≤ (bits.length : Int) - (p : Int)) => hge
    rename RaisedS _ _ _ _ _ _ _ _ _ => hS
    rename Heap.UpToSlots _ _ => hU
    refine hrse _ _ _ _ _ _ _ ?_ hS hU (.inl ⟨by omega, rfl⟩)
    assumption
  · rename (¬ (8 ≤ (bits.length : Int) - (p : Int))) => hlt
    have hall : (bits.drop p).take (bits.length - p) = bits.drop p := List.take_of_length_le (by simp)
    rw [show (bits.length : Int) - (p : Int) = ((bits.length - p : Nat) : Int) by omega]
    refine' specR_use (spec_read (p := p) (c := bits.length - p) hxd offd hbs hb h8 hz hp (by omega)) ?k1 ?k2 ?k3 ?k4 ?k5 ?kK ?kd ?ku ?_ ?_
    case k1 => k_asm
    case k2 => k_asm
    case k3 => k_asm
    case k4 => walk_at "fc pick"
    case k5 => k_asm
    case kK => first | exact rfl | assumption
    case kd => walk_at "fc room"
    case ku => walk_at "fc units"
    · rintro r news' h' tk' F' N' ⟨hle, t2, tp2, rfl, rfl⟩
      rw [hall, show ((p + (bits.length - p) : Nat) : Int) = (bits.length : Int) by omega] at *
      k_steps
      · rename (num (bits.drop p) ≠ 0) => hne
        rename RaisedS _ _ _ _ _ _ _ _ _ => hS
        rename Heap.UpToSlots _ _ => hU
        refine hrse _ _ _ _ _ _ _ ?_ hS hU (.inr ⟨by omega, hne, _, rfl⟩)
        assumption
      · rename (num (bits.drop p) = 0) => he0
        rename News h₀ L _ _ => kN
        rename Fr h₀ L _ m => kF
        exact hret _ _ _ _ kF kN ⟨rfl, by omega, he0, _, rfl⟩
    · intro G e t' vs h' tk' news' FG S U hr
      exact absurd hr.1 (by omega)
  · rename ((bits.length : Int) - (p : Int) = 0) => hz0
    rename News h₀ L _ _ => kN
    rename Fr h₀ L _ m => kF
    have e : p = bits.length := by omega
    subst e
    exact hret _ _ _ _ kF kN ⟨rfl, by omega, by simp [num], _, rfl⟩
end
section
set_option maxRecDepth 100000
set_option maxHeartbeats 1500000
local macro_rules | `(tactic| walk_at "fc enter") => `(tactic| k_dflt (first
  | (refine' code_def ?k1 ?k2 ?k3 ?k4 ?k5 ?kA ?kF ?kK ?k6 ?k7 ?k8 ?k9 ?kB ?_ ?c2 ?c3 ?c4 ?c5; (case kA => exact rfl); (case kF => exact rfl); (case kK => first | exact rfl | assumption); (case k1 => k_asm); (case k2 => k_asm); (case k3 => k_asm); (case k4 => k_asm); (case k5 => k_asm); (case k6 => k_is); (case k7 => k_is); (case k8 => ktr_room); (case k9 => first | exact BindsTo.of_eq rfl | exact binds_K (by k_in) rfl (by k_is) rfl rfl rfl); (case c5 => decide); (case kB => exact locs rfl); (case c2 => exact rfl); (case c3 => exact rfl); (case c4 => exact rfl); k_whole; intro g' L' h' FG' F' N' B' X' T'; (try dsimp only); (try k_lift B'); (try k_fold))
  | (refine' code_defC ?k1 ?k2 ?k3 ?k4 ?k5 ?kA ?kF ?kK ?k6 ?k7 ?k8 ?k9 ?kB ?kD ?_ ?c2 ?c3 ?c4; (case kA => exact rfl); (case kF => exact rfl); (case kK => first | exact rfl | assumption); (case k1 => k_asm); (case k2 => k_asm); (case k3 => k_asm); (case k4 => k_asm); (case k5 => k_asm); (case k6 => k_is); (case k7 => k_is); (case k8 => ktr_room); (case k9 => first | exact BindsTo.of_eq rfl | exact binds_K (by k_in) rfl (by k_is) rfl rfl rfl); (case kB => exact rfl); (case kD => decide +kernel); (case c2 => exact rfl); (case c3 => exact rfl); (case c4 => exact rfl); k_whole; intro g' L' h' tk' cells' FG' F' N' Y' B' X' T' l1; (try k_lt l1); k_cells Y'; (try simp only [List.cons_append, List.nil_append] at N'); (try dsimp only); (try k_lift B'); (try k_fold))))
local macro_rules | `(tactic| walk_at "fc enterW") => `(tactic| k_dflt (
  (refine' code_defW ?k1 ?k2 ?k3 ?k4 ?k5 ?kA ?kF ?kK ?k6 ?k7 ?k8 ?k9 ?kB ?_ ?c2 ?c3 ?c4 ?c5; (case kA => exact rfl); (case kF => exact rfl); (case kK => first | exact rfl | assumption); (case k1 => k_asm); (case k2 => k_asm); (case k3 => k_asm); (case k4 => k_asm); (case k5 => k_asm); (case k6 => k_is); (case k7 => k_is); (case k8 => ktr_room); (case k9 => first | exact BindsTo.of_eq rfl | exact binds_K (by k_in) rfl (by k_is) rfl rfl rfl); (case c5 => decide); (case kB => exact locs rfl); (case c2 => exact rfl); (case c3 => exact rfl); (case c4 => exact rfl); k_whole; intro g' L' h' tk' FG' F' N' B' X' T' l1; (try k_lt l1); (try dsimp only); (try k_lift B'))))
local macro_rules | `(tactic| k_all) => `(tactic| exact off_of_lt (by with_reducible assumption))
local macro_rules | `(tactic| k_all) => `(tactic| with_reducible assumption)
local macro_rules | `(tactic| walk_at "fc sub") => `(tactic| (intro p9 h9; simp only [List.mem_cons, List.mem_append] at h9 ⊢; grind))
local macro_rules | `(tactic| walk_at "fc led") => `(tactic| first
  | exact List.forall_mem_nil _
  | (refine' List.forall_mem_cons.mpr ⟨?fa, ?fb⟩; (case fa => k_mem); (case fb => walk_at "fc led"))
  | (intro p9 h9; repeat (first | exact h9 | refine List.Mem.tail _ ?_)))
local macro_rules | `(tactic| walk_at "exec While") => `(tactic| (rename ParkWhile => z9; clear z9; refine Parked.go ?_))
local macro_rules | `(tactic| walk_at "exec Try") => `(tactic| (rename ParkTry => z9; clear z9; refine Parked.go ?_))
local macro_rules | `(tactic| walk_at "exec For") => `(tactic| (rename ParkFor => z9; clear z9; refine Parked.go ?_))
local macro_rules | `(tactic| walk_at "exec For Name Call") => `(tactic| (rename ParkFor => z9; clear z9; refine Parked.go ?_))
local macro_rules | `(tactic| walk_at "exec For Name Call cons nil") => `(tactic| (rename ParkFor => z9; clear z9; refine Parked.go ?_))
local macro_rules | `(tactic| walk_at "exec For Name Name") => `(tactic| (rename ParkFor => z9; clear z9; refine Parked.go ?_))
local macro_rules | `(tactic| walk_at "exec For Name Name cons nil") => `(tactic| (rename ParkFor => z9; clear z9; refine Parked.go ?_))
local macro_rules | `(tactic| walk_at "exec For Name List cons nil") => `(tactic| (rename ParkFor => z9; clear z9; refine Parked.go ?_))
local macro_rules | `(tactic| walk_at "fc pick") => `(tactic| first | k_asm | (rename News _ _ _ _ => z9; exact cb_drop z9 (by walk_at "fc led")))
local macro_rules | `(tactic| walk_at "fc room") => `(tactic| first | omega | ((try simp only [depth_under_make, depth_under_kw, depth_in1, depth_deeper, depth_caller]); (try dsimp only [ktrTop]); omega) | ktr_room)
local macro_rules | `(tactic| walk_at "fc units") => `(tactic| first | omega | (have hcL9 := cLine_is; (try simp only [units_in1, units_deeper, Around.mark_units, units_caller]); (try dsimp only [ktrTop]); omega) | ktr_units)

local macro_rules | `(tactic| walk_at "exec Raise some none") => `(tactic| (k_here; (with_reducible show wpAny _ _ (exec (Stmt.Raise (some (Expr.Call (Expr.Name _ _) (_ :: _) [] _)) none _) _) _ _ _); k_dflt (refine' raise2 ?F ?g ?O ?h ?_ ?a ?b ?c ?d ?e; (case F => k_asm); (case g => exact TopRead.g (by k_asm)); (case O => exact own_of_in (by k_asm) (by k_asm) (by k_is) (by k_exc)); (case h => first | rfl | assumption); (case a => rfl); (case b => rfl); (case c => rfl); (case d => rfl); (case e => decide); k_whole)))
local macro_rules | `(tactic| walk_at "leaving ref") => `(tactic| (k_here; (refine' leave_raiseS ?k1 ?k0 ?k2 ?k3 ?_; (case k0 => assumption); (case k2 => assumption); (case k1 => assumption); (case k3 => k_asm); k_whole; intro h' t' S' R' U'; (try dsimp only at S' R' U' ⊢))))
local macro_rules | `(tactic| walk_at "callWith ref") => `(tactic| (k_here; (with_reducible show wpAny _ _ (callWith _ (Value.ref _) _ (backTo _ (starEach (_ :: _) _)) (backToKw _ (keywordEach (_ :: _) _))) _ _ _); kfb_any; k_dflt (refine' callWithKw ?kfbN ?kfbM ?kfbA ?_; (case kfbN => k_asm); (case kfbM => k_mem); (case kfbA => exact rfl); k_whole)))
local macro_rules | `(tactic| walk_at "call ref") => `(tactic| (k_here; (with_reducible show wpAny _ _ (call (Value.ref _) [Value.bytes _ _] (_ :: _)) _ _ _); kfb_any; k_dflt (first
  | (refine callBig (by k_asm) (by k_mem) (by kba_ints2) (by kba_size) ?_)
  | (refine callLittle (by k_asm) (by k_mem) (by kba_ints2) (by kba_size) ?_)); intro _ _))
local macro_rules | `(tactic| walk_at "subscriptTail") => `(tactic| (k_here; (with_reducible show wpAny _ _ (subscriptTail _ (PySem.Expr.Slice none none (some _) _) (Value.bytes _ _) (Value.ref _)) _ _ _); (with_reducible rename Fr _ _ _ _ => F'); (with_reducible rename News _ _ _ _ => N'); (refine rev_K (s := ⟨_, _, _, _, _⟩) F' N' (by kba_ints) (by kba_size) ?_); intro _ _ _ _ _ kbcK))

/-- the ones ahead of the first nought, from a place on -/
def onesFrom (bits : List Int) (p : Nat) : Nat := ((bits.drop p).takeWhile (· == 1)).length
/-- ones told so far -/
def OnesAt (bits : List Int) (p j : Nat) : Prop := p + j ≤ bits.length ∧ ∀ i < j, bits[p + i]? = some 1
theorem take_one {bits : List Int} {k : Nat} {b : Int} (h : bits[k]? = some b) : (bits.drop k).take 1 = [b] := by
  obtain ⟨hk, e⟩ := List.getElem?_eq_some_iff.mp h
  rw [List.drop_eq_getElem_cons hk, e]
  rfl
theorem spec_decode {w : World} {mean : ExcName → Option Value} {mg mb : Str → Option Value} {news : List (Addr × Obj)} {x dx : Addr} {h1 h2 h3 : Int} {k1 k2 k3 tb tn tp tc : Tok} {bs : Array UInt8} {bits : List Int} {p c : Nat} (hxd : @Ne Nat x dx) (offd : ∀ p ∈ news, p.1 ≠ dx)
    (hbs : KBw.bInts bs = octs bits) (hb : IsBits bits) (h8 : bits.length % 8 = 0) (hz : bits.length < 100000) (hp : p ≤ bits.length) (hc : c < 100) :
    SpecR w mean mg mb 185 [.ref x, .int (c : Int) tc] ((x, instObj 167 dx) :: (dx, rDict h1 h2 h3 k1 k2 k3 bs tb (bits.length : Int) tn (p : Int) tp) :: news) 30 300
      (fun r news' => ∃ j, OnesAt bits p j ∧ bits[p + j]? = some 0 ∧ p + j + 1 + c ≤ bits.length ∧ ∃ t tp', r = .int ((j : Int) * 2 ^ c + num ((bits.drop (p + j + 1)).take c)) t ∧
        news' = (x, instObj 167 dx) :: (dx, rDict h1 h2 h3 k1 k2 k3 bs tb (bits.length : Int) tn ((p + j + 1 + c : Nat) : Int) tp') :: news)
      (fun news' => ∃ q tp', news' = (x, instObj 167 dx) :: (dx, rDict h1 h2 h3 k1 k2 k3 bs tb (bits.length : Int) tn ((q : Nat) : Int) tp') :: news ∧ ((q = bits.length ∧ OnesAt bits p (bits.length - p)) ∨
        ∃ j, OnesAt bits p j ∧ bits[p + j]? = some 0 ∧ bits.length < p + j + 1 + c ∧ q = p + j + 1)) := by
  unfold SpecR
  k_fill
  intro dp un gd cn cs a ccd outer A₀ base h₀ L m s Q E B F X N T hk hd hu hret hrse
  refine wpAny_call ?_
  walk_at "fc enter"
  have parkW : ParkWhile := trivial
  k_steps
  refine whileM (L := _) (n₀ := bits.length - p) (fun m₀ n m' news' => (∃ j t, m' = (fun y => if y = Str.ofString "quotient" then some (.int ((j : Nat) : Int) t) else m₀ y) ∧ n = bits.length - (p + j) ∧ OnesAt bits p j ∧
    ∃ tp', news' = (x, instObj 167 dx) :: (dx, rDict h1 h2 h3 k1 k2 k3 bs tb (bits.length : Int) tn ((p + j : Nat) : Int) tp') :: news)) (by k_asm) (by k_asm) ⟨0, _, frame1 rfl fun _ _ => rfl, rfl, ⟨by omega, fun i hi => absurd hi (by omega)⟩, tp, rfl⟩ ?_
  rintro n m₁ news₁ h₁ tk₁ F₁ N₁ ⟨j, t, rfl, rfl, hj, tp', rfl⟩
  k_steps
  have hpj := hj.1
  refine' specR_use (spec_read (p := p + j) (c := 1) hxd offd hbs hb h8 hz hpj (by omega)) ?k1 ?k2 ?k3 ?k4 ?k5 ?kK ?kd ?ku ?_ ?_
  case k1 => k_asm
  case k2 => k_asm
  case k3 => k_asm
  case k4 => walk_at "fc pick"
  case k5 => k_asm
  case kK => first | exact rfl | assumption
  case kd => walk_at "fc room"
  case ku => walk_at "fc units"
  · rintro r news' h' tk' F' N' ⟨hle, t2, tp2, rfl, rfl⟩
    obtain ⟨b, hbj, hbb⟩ : ∃ b, bits[p + j]? = some b ∧ (b = 0 ∨ b = 1) := ⟨bits[p + j]'(by omega), List.getElem?_eq_getElem (by omega), hb _ (List.getElem_mem _)⟩
    have hone : (bits.drop (p + j)).take 1 = [b] := take_one hbj
    rw [hone]
    have hnum : num [b] = b := by simp [num]
    rw [hnum]
    rcases hbb with rfl | rfl
    · k_steps
      refine' specR_use (spec_read (p := p + j + 1) (c := c) hxd offd hbs hb h8 hz hle (by omega)) ?k1 ?k2 ?k3 ?k4 ?k5 ?kK ?kd ?ku ?_ ?_
      case k1 => k_asm
      case k2 => k_asm
      case k3 => k_asm
      case k4 => walk_at "fc pick"
      case k5 => k_asm
      case kK => first | exact rfl | assumption
      case kd => walk_at "fc room"
      case ku => walk_at "fc units"
      · rintro r news' h' tk' F' N' ⟨hle2, t3, tp3, rfl, rfl⟩
        k_steps
        rename News h₀ L _ _ => kN
        rename Fr h₀ L _ m => kF
        rw [Int.toNat_natCast]
        exact hret _ _ _ _ kF kN ⟨j, hj, hbj, hle2, _, _, rfl, rfl⟩
      · intro G e t' vs h' tk' news' FG S U hr
        obtain ⟨hlt, rfl⟩ := hr
        refine leave_onS (by assumption) FG S U fun h2 S2 K2 U2 => ?_
        exact hrse _ _ _ _ _ _ _ (by assumption) S2 U2 ⟨p + j + 1, _, rfl, .inr ⟨j, hj, hbj, hlt, rfl⟩⟩
    · k_steps
      rename Fr _ _ _ _ => F9
      rename News _ _ _ _ => N9
      refine WhileStep.intro (n' := bits.length - (p + (j + 1))) F9 N9 (by omega) ⟨j + 1, _, frame1 (congrArg (fun z => some (Value.int z _)) (show (j : Int) + 1 = ((j + 1 : Nat) : Int) by omega)) (fun n e => by simp only [e, if_false]), rfl, ⟨by omega, fun i hi => ?_⟩, _, rfl⟩
      by_cases hij : i = j
      · rw [hij]; exact hbj
      · exact hj.2 i (by omega)
  · intro G e t' vs h' tk' news' FG S U hr
    obtain ⟨hlt, rfl⟩ := hr
    refine leave_onS (by assumption) FG S U fun h2 S2 K2 U2 => ?_
    refine hrse _ _ _ _ _ _ _ (by assumption) S2 U2 ⟨p + j, tp', rfl, .inl ⟨by omega, ?_⟩⟩
    rw [show bits.length - p = j by omega]
    exact hj
end
section
set_option maxRecDepth 100000
set_option maxHeartbeats 4000000
section
variable {prog : Program} {w : World} {A₀ A : Around} {s : Shared} {base h₀ : Heap} {L : Addr} {m : Str → Option Value} {env : Env} {news : List (Addr × Obj)} {K : Frag} {p : Program} {loose : List Str} {mean : ExcName → Option Value} {mg mb : Str → Option Value}
    {R : Result → Shared → Prop} {name qual : Str} {params : Arguments} {body : List Stmt} {scope : Scope} {dV kV doc pm cdv ct oc : Value} {an od : Option Addr} {osl : Array (Option Value)} {f : Addr} {args : Args} {binds : List (Str × Value)}
theorem pushX {h : Heap} {outer : List Env} (B : Below A₀ base outer h₀) (F : Fr h₀ L h m) (hA : A.frames = some (env :: outer)) (hf : env.frame = some L) (hke : env.scope.kind = .function) : Below A base (env :: outer) h := by
  have hnew : base.get? L = none := by
    cases hq : base.get? L with
    | none => rfl
    | some o => exact absurd (Nat.lt_of_lt_of_le (Heap.lt_size (B.stays L o hq)) F.above) (Nat.lt_irrefl _)
  exact ⟨hA, fun b o e => F.keep b o (B.stays b o e), .cons (by rw [hke]; decide) hf F.ns hnew (B.frames.of_keeps fun b o e _ => ⟨o, F.keep b o e, rfl⟩)⟩
/-- a def with a try inside, called from the bottom's own def -/
theorem code_defT (B : Below A₀ base [] h₀) (F : Fr h₀ L s.heap m) (X₀ : K.In h₀) (N : News h₀ L s.heap news) (T : Top p loose mean mg mb h₀) (hA : A.frames = some [env]) (hf : env.frame = some L) (hke : env.scope.kind = .function)
    (ho : K.lookup f = some ⟨oc, od, .func (fnOf name qual params body scope dV kV doc pm an cdv ct), osl⟩) (hcd : codeIn K cdv qual = true) (hroom : A.depth < recursionLimit)
    (hbind : BindsTo s (fnOf name qual params body scope dV kV doc pm an cdv ct) args binds) (hloc : ∀ y ∈ binds, scope.names.lookup y.1 = some .local)
    (h : ∀ g L' h₁, Fr h₀ L g m → Fr g L' h₁ (fun y => binds.reverse.lookup y) → News g L' h₁ news → Below A base [env] g → K.In g → Top p loose mean mg mb g → KtsDicts ([env].filterMap (·.frame)) g →
      wpAny (model prog w) (A.deeper (envOf qual scope L' f cdv)) (execs body (envOf qual scope L' f cdv))
        (fun fl s' => LeaveS0 ([env].filterMap (·.frame)) h₀ L m g R (match fl with | .ret v => v | _ => .none) s')
        (fun e s' => wpAny (model prog w) (A.deeper (envOf qual scope L' f cdv)) (leaving (envOf qual scope L' f cdv) e) (fun _ s'' => R (.error e) s'') (fun e' s'' => R (.error e') s'') s')
        { s with heap := h₁, toks := s.toks + binds.length })
    (hco : scope.isCoroutine = false) (hgen : scope.isGenerator = false) (hk : scope.kind = .function)
    (hcell : ∀ x ∈ scope.names, x.2 ≠ .cell) : codeAny (model prog w) A (.call (.ref f) args) R s := by
  have X := X₀.keeps F.keep
  have hfs : [env].filterMap (·.frame) = [L] := by simp [hf]
  have nm : ∀ b o, h₀.get? b = some o → b ∉ news.map (·.1) := fun b o e q => by
    obtain ⟨p, hp, rfl⟩ := List.mem_map.mp q
    rw [(N p hp).2.2] at e; cases e
  have st : h₀.StaysIn (hideAll s.heap (news.map (·.1))) := fun b o e => hideAll_get _ (F.keep b o e) (nm b o e)
  obtain ⟨oL, es, ep, hL, hLd, hLk, hLf⟩ := id F.ns
  have nL : L ∉ news.map (·.1) := fun q => by
    obtain ⟨p, hp, e⟩ := List.mem_map.mp q
    exact (N p hp).2.1 e
  have hLg := hideAll_get (news.map (·.1)) hL nL
  have hN : ∀ h', h'.get? L = some oL → Heap.Ns h' L m := fun h' e => ⟨oL, es, ep, e, hLd, hLk, hLf⟩
  have hNs : ∀ (sl : Array (Option Value)) h', h'.get? L = some { oL with slots := sl } → Heap.Ns h' L m := fun sl h' e => ⟨_, es, ep, e, hLd, hLk, hLf⟩
  have FG : Fr h₀ L (hideAll s.heap (news.map (·.1))) m := ⟨hN _ hLg, st, F.above⟩
  have B₂ : Below A base [env] (hideAll s.heap (news.map (·.1))) := pushX B FG hA hf hke
  refine codeAny_call_def (fd := fnOf name qual params body scope dV kV doc pm an cdv ct) (body := body) (binds := binds) hroom (X _ _ ho) rfl (T.nolimit.keeps F.keep) (codeRec_of X hcd) rfl hbind hcell hloc (fun h₁ hns hk₁ => ?_) hco hgen hk
  refine wpAny_mono (h _ s.heap.objs.size h₁ FG ⟨hns, fun b o e => hk₁ b o (of_hideAll _ e), Nat.le_of_eq (hideAll_size _ _)⟩
    (fun p hp => ⟨hk₁ _ _ (N p hp).1, Nat.ne_of_lt (Heap.lt_size (N p hp).1), hideAll_none _ (List.mem_map_of_mem hp)⟩) B₂ (X₀.keeps st) (T.keeps st) (fun b hb => by
      rw [hfs, List.mem_singleton] at hb
      subst hb
      exact ⟨oL, es, ep, hLg, hLd⟩)) (fun fl s' hl => ?_) fun _ _ y => y
  rw [hfs] at hl
  obtain ⟨g', L', m', news', T', F', N', k⟩ := hl
  have nL₀ : h₀.get? L = none := kts_self F
  obtain ⟨sl, hs⟩ := T'.up hLg
  refine k ⟨hNs sl _ (F'.keep _ _ hs), fun b o e => F'.keep b o (T'.other b o (st b o e) (fun q => by
    rw [List.mem_singleton.mp q, nL₀] at e
    cases e)), F.above⟩ fun p hp => ⟨(N' p hp).1, fun q => ?_, ?_⟩
  · have := (N' p hp).2.2; rw [q, hs] at this; cases this
  · cases q : h₀.get? p.1 with
    | none => rfl
    | some o =>
      obtain ⟨sl', hs'⟩ := T'.up (st _ _ q)
      have := (N' p hp).2.2
      rw [hs'] at this
      cases this
end
/-- what a called def with a try inside gives back, called from the bottom's own def -/
def Spec0 (w : World) (mean : ExcName → Option Value) (mg mb : Str → Option Value) (f : Addr) (vs : List Value) (news : List (Addr × Obj)) (D U : Nat) (Ret : Value → List (Addr × Obj) → Prop) : Prop :=
  ∀ (dp un : Nat) (gd : Option (List Code)) (cn : Str) (cs : Scope) (a : Addr) (ccd : Value) (cl : List (Str × Addr)) (A₀ : Around) (base h₀ : Heap) (L : Addr) (m : Str → Option Value) (s : Shared)
    (Q E : Value → Shared → Prop),
    Below A₀ base [] h₀ → Fr h₀ L s.heap m → (FC.hd.heap_39 w.params).In h₀ → News h₀ L s.heap news →
    Top FC.hd.view_39 (looseW FC.hd.view_39 [Str.ofString "BTClibValueError", Str.ofString "BTClibTypeError", Str.ofString "bytes_from_octets"]) mean mg mb h₀ →
    (FC.hd.heap_39 w.params).In base → Top FC.hd.view_39 (looseW FC.hd.view_39 [Str.ofString "BTClibValueError", Str.ofString "BTClibTypeError", Str.ofString "bytes_from_octets"]) mean mg mb base →
    cs.kind = .function → dp + D < recursionLimit → un + U < cLine →
    (∀ r news' h' tk', Fr h₀ L h' m → News h₀ L h' news' → Ret r news' → Q r { s with heap := h', toks := tk' }) →
    wpAny (model PySem.Challenge.rw_fc5004_01.row.prog w) (ktrTop dp un gd cn cs L a ccd cl []) (call (.ref f) vs) Q E s
/-- the same, called from a def above that -/
def SpecT (w : World) (mean : ExcName → Option Value) (mg mb : Str → Option Value) (f : Addr) (vs : List Value) (news : List (Addr × Obj)) (D U : Nat) (Ret : Value → List (Addr × Obj) → Prop) : Prop :=
  ∀ (dp un : Nat) (gd : Option (List Code)) (cn : Str) (cs : Scope) (a : Addr) (ccd : Value) (outer : List Env) (A₀ : Around) (base g₀ h₀ : Heap) (L : Addr) (m : Str → Option Value) (s : Shared)
    (Q E : Value → Shared → Prop),
    Below A₀ base outer h₀ → Fr h₀ L s.heap m → (FC.hd.heap_39 w.params).In h₀ → News h₀ L s.heap news →
    Top FC.hd.view_39 (looseW FC.hd.view_39 [Str.ofString "BTClibValueError", Str.ofString "BTClibTypeError", Str.ofString "bytes_from_octets"]) mean mg mb h₀ →
    (FC.hd.heap_39 w.params).In base → Top FC.hd.view_39 (looseW FC.hd.view_39 [Str.ofString "BTClibValueError", Str.ofString "BTClibTypeError", Str.ofString "bytes_from_octets"]) mean mg mb base →
    KtsDicts (outer.filterMap (·.frame)) h₀ → KtsTurn (outer.filterMap (·.frame)) g₀ h₀ →
    cs.kind = .function → dp + D < recursionLimit → un + U < cLine →
    (∀ r news' h' tk' h₀', KtsTurn (outer.filterMap (·.frame)) g₀ h₀' → Fr h₀' L h' m → News h₀' L h' news' → Below A₀ base outer h₀' → (FC.hd.heap_39 w.params).In h₀' →
      Top FC.hd.view_39 (looseW FC.hd.view_39 [Str.ofString "BTClibValueError", Str.ofString "BTClibTypeError", Str.ofString "bytes_from_octets"]) mean mg mb h₀' → KtsDicts (outer.filterMap (·.frame)) h₀' → Ret r news' → Q r { s with heap := h', toks := tk' }) →
    wpAny (model PySem.Challenge.rw_fc5004_01.row.prog w) (ktrTop dp un gd cn cs L a ccd [] outer) (call (.ref f) vs) Q E s
/-- a while's end -/
def WhileStop (h₀ : Heap) (L : Addr) (s : Shared) (Fin : (Str → Option Value) → List (Addr × Obj) → Prop) (s₂ : Shared) : Prop :=
  ∃ h tk m' news', s₂ = { s with heap := h, toks := tk } ∧ Fr h₀ L h m' ∧ News h₀ L h news' ∧ Fin m' news'
theorem WhileStop.intro {h₀ h : Heap} {L : Addr} {s : Shared} {tk : Nat} {Fin : (Str → Option Value) → List (Addr × Obj) → Prop} {m' : Str → Option Value} {news' : List (Addr × Obj)} (F : Fr h₀ L h m') (N : News h₀ L h news') (fin : Fin m' news') :
    WhileStop h₀ L s Fin { s with heap := h, toks := tk } := ⟨h, tk, m', news', rfl, F, N, fin⟩
theorem whileMK {prog : Program} {w : World} {A : Around} {E : Value → Shared → Prop} {Q : Flow → Shared → Prop} {s : Shared} {env : Env} {h₀ : Heap} {L : Addr} {test : Expr} {body : List Stmt} {pos : Pos} {m : Str → Option Value} {news : List (Addr × Obj)}
    (J : (Str → Option Value) → Nat → (Str → Option Value) → List (Addr × Obj) → Prop) (Fin : (Str → Option Value) → (Str → Option Value) → List (Addr × Obj) → Prop) {n₀ : Nat}
    (F : Fr h₀ L s.heap m) (N : News h₀ L s.heap news) (hJ : J m n₀ m news)
    (turn : ∀ n m₁ news₁ h₁ tk₁, Fr h₀ L h₁ m₁ → News h₀ L h₁ news₁ → J m n m₁ news₁ →
      wpAny (model prog w) A (isTrue test env (eval test env)) (fun b s₂ =>
        if b = true then wpAny (model prog w) A (execs body env) (WhileStep h₀ L s (J m) n) E s₂ else WhileStop h₀ L s (Fin m) s₂) E { s with heap := h₁, toks := tk₁ })
    (rest : ∀ m' news' h tk, Fr h₀ L h m' → News h₀ L h news' → Fin m m' news' → Q .next { s with heap := h, toks := tk })
    (hE : PassesOwn (model prog w) A env E := by passes_own) :
    wpAny (model prog w) A (exec (.While test body [] pos) env) Q E s := by
  refine While_inv (J m) F N hJ (fun n m₁ news₁ h₁ tk₁ F₁ N₁ J₁ => wpAny_mono (turn n m₁ news₁ h₁ tk₁ F₁ N₁ J₁) (fun b s₂ h₂ => ?_) fun _ _ e => e) hE
  cases b with
  | true => exact h₂
  | false =>
    simp only [Bool.false_eq_true, if_false] at h₂ ⊢
    obtain ⟨h, tk, m', news', rfl, F', N', fin⟩ := h₂
    exact rest m' news' h tk F' N' fin
theorem specT_use {w : World} {mean : ExcName → Option Value} {mg mb : Str → Option Value} {f : Addr} {vs : List Value} {news : List (Addr × Obj)} {D U : Nat} {Ret : Value → List (Addr × Obj) → Prop}
    (S : SpecT w mean mg mb f vs news D U Ret) {dp un : Nat} {gd : Option (List Code)} {cn : Str} {cs : Scope} {a : Addr} {ccd : Value} {outer : List Env} {A₀ : Around} {base g₀ h₀ : Heap} {L : Addr} {m : Str → Option Value} {s : Shared}
    {Q E : Value → Shared → Prop} (B : Below A₀ base outer h₀) (F : Fr h₀ L s.heap m) (X : (FC.hd.heap_39 w.params).In h₀) (N : News h₀ L s.heap news)
    (T : Top FC.hd.view_39 (looseW FC.hd.view_39 [Str.ofString "BTClibValueError", Str.ofString "BTClibTypeError", Str.ofString "bytes_from_octets"]) mean mg mb h₀)
    (hk : cs.kind = .function) (hd : dp + D < recursionLimit) (hu : un + U < cLine)
    (XB : (FC.hd.heap_39 w.params).In base) (TB : Top FC.hd.view_39 (looseW FC.hd.view_39 [Str.ofString "BTClibValueError", Str.ofString "BTClibTypeError", Str.ofString "bytes_from_octets"]) mean mg mb base)
    (DD : KtsDicts (outer.filterMap (·.frame)) h₀) (T0 : KtsTurn (outer.filterMap (·.frame)) g₀ h₀)
    (ret : ∀ r news' h' tk' h₀', KtsTurn (outer.filterMap (·.frame)) g₀ h₀' → Fr h₀' L h' m → News h₀' L h' news' → Below A₀ base outer h₀' → (FC.hd.heap_39 w.params).In h₀' →
      Top FC.hd.view_39 (looseW FC.hd.view_39 [Str.ofString "BTClibValueError", Str.ofString "BTClibTypeError", Str.ofString "bytes_from_octets"]) mean mg mb h₀' → KtsDicts (outer.filterMap (·.frame)) h₀' → Ret r news' → Q r { s with heap := h', toks := tk' }) :
    wpAny (model PySem.Challenge.rw_fc5004_01.row.prog w) (ktrTop dp un gd cn cs L a ccd [] outer) (call (.ref f) vs) Q E s := S _ _ _ _ _ _ _ _ _ _ _ _ _ _ _ _ _ B F X N T XB TB DD T0 hk hd hu ret
end
section
set_option maxRecDepth 100000
set_option maxHeartbeats 1500000
local macro_rules | `(tactic| walk_at "fc enter") => `(tactic| k_dflt (first
  | (refine' code_def ?k1 ?k2 ?k3 ?k4 ?k5 ?kA ?kF ?kK ?k6 ?k7 ?k8 ?k9 ?kB ?_ ?c2 ?c3 ?c4 ?c5; (case kA => exact rfl); (case kF => exact rfl); (case kK => first | exact rfl | assumption); (case k1 => k_asm); (case k2 => k_asm); (case k3 => k_asm); (case k4 => k_asm); (case k5 => k_asm); (case k6 => k_is); (case k7 => k_is); (case k8 => ktr_room); (case k9 => first | exact BindsTo.of_eq rfl | exact binds_K (by k_in) rfl (by k_is) rfl rfl rfl); (case c5 => decide); (case kB => exact locs rfl); (case c2 => exact rfl); (case c3 => exact rfl); (case c4 => exact rfl); k_whole; intro g' L' h' FG' F' N' B' X' T'; (try dsimp only); (try k_lift B'); (try k_fold))
  | (refine' code_defC ?k1 ?k2 ?k3 ?k4 ?k5 ?kA ?kF ?kK ?k6 ?k7 ?k8 ?k9 ?kB ?kD ?_ ?c2 ?c3 ?c4; (case kA => exact rfl); (case kF => exact rfl); (case kK => first | exact rfl | assumption); (case k1 => k_asm); (case k2 => k_asm); (case k3 => k_asm); (case k4 => k_asm); (case k5 => k_asm); (case k6 => k_is); (case k7 => k_is); (case k8 => ktr_room); (case k9 => first | exact BindsTo.of_eq rfl | exact binds_K (by k_in) rfl (by k_is) rfl rfl rfl); (case kB => exact rfl); (case kD => decide +kernel); (case c2 => exact rfl); (case c3 => exact rfl); (case c4 => exact rfl); k_whole; intro g' L' h' tk' cells' FG' F' N' Y' B' X' T' l1; (try k_lt l1); k_cells Y'; (try simp only [List.cons_append, List.nil_append] at N'); (try dsimp only); (try k_lift B'); (try k_fold))))
local macro_rules | `(tactic| walk_at "fc enterW") => `(tactic| k_dflt (
  (refine' code_defW ?k1 ?k2 ?k3 ?k4 ?k5 ?kA ?kF ?kK ?k6 ?k7 ?k8 ?k9 ?kB ?_ ?c2 ?c3 ?c4 ?c5; (case kA => exact rfl); (case kF => exact rfl); (case kK => first | exact rfl | assumption); (case k1 => k_asm); (case k2 => k_asm); (case k3 => k_asm); (case k4 => k_asm); (case k5 => k_asm); (case k6 => k_is); (case k7 => k_is); (case k8 => ktr_room); (case k9 => first | exact BindsTo.of_eq rfl | exact binds_K (by k_in) rfl (by k_is) rfl rfl rfl); (case c5 => decide); (case kB => exact locs rfl); (case c2 => exact rfl); (case c3 => exact rfl); (case c4 => exact rfl); k_whole; intro g' L' h' tk' FG' F' N' B' X' T' l1; (try k_lt l1); (try dsimp only); (try k_lift B'))))
local macro_rules | `(tactic| k_all) => `(tactic| exact off_of_lt (by with_reducible assumption))
local macro_rules | `(tactic| k_all) => `(tactic| with_reducible assumption)
local macro_rules | `(tactic| walk_at "fc sub") => `(tactic| (intro p9 h9; simp only [List.mem_cons, List.mem_append] at h9 ⊢; grind))
local macro_rules | `(tactic| walk_at "fc led") => `(tactic| first
  | exact List.forall_mem_nil _
  | (refine' List.forall_mem_cons.mpr ⟨?fa, ?fb⟩; (case fa => k_mem); (case fb => walk_at "fc led"))
  | (intro p9 h9; repeat (first | exact h9 | refine List.Mem.tail _ ?_)))
local macro_rules | `(tactic| walk_at "exec While") => `(tactic| (rename ParkWhile => z9; clear z9; refine Parked.go ?_))
local macro_rules | `(tactic| walk_at "exec Try") => `(tactic| (rename ParkTry => z9; clear z9; refine Parked.go ?_))
local macro_rules | `(tactic| walk_at "exec For") => `(tactic| (rename ParkFor => z9; clear z9; refine Parked.go ?_))
local macro_rules | `(tactic| walk_at "exec For Name Call") => `(tactic| (rename ParkFor => z9; clear z9; refine Parked.go ?_))
local macro_rules | `(tactic| walk_at "exec For Name Call cons nil") => `(tactic| (rename ParkFor => z9; clear z9; refine Parked.go ?_))
local macro_rules | `(tactic| walk_at "exec For Name Name") => `(tactic| (rename ParkFor => z9; clear z9; refine Parked.go ?_))
local macro_rules | `(tactic| walk_at "exec For Name Name cons nil") => `(tactic| (rename ParkFor => z9; clear z9; refine Parked.go ?_))
local macro_rules | `(tactic| walk_at "exec For Name List cons nil") => `(tactic| (rename ParkFor => z9; clear z9; refine Parked.go ?_))
local macro_rules | `(tactic| walk_at "fc pick") => `(tactic| first | k_asm | (rename News _ _ _ _ => z9; exact cb_drop z9 (by walk_at "fc led")))
local macro_rules | `(tactic| walk_at "fc room") => `(tactic| first | omega | ((try simp only [depth_under_make, depth_under_kw, depth_in1, depth_deeper, depth_caller]); (try dsimp only [ktrTop]); omega) | ktr_room)
local macro_rules | `(tactic| walk_at "fc units") => `(tactic| first | omega | (have hcL9 := cLine_is; (try simp only [units_in1, units_deeper, Around.mark_units, units_caller]); (try dsimp only [ktrTop]); omega) | ktr_units)

local macro_rules | `(tactic| walk_at "exec Raise some none") => `(tactic| (k_here; (with_reducible show wpAny _ _ (exec (Stmt.Raise (some (Expr.Call (Expr.Name _ _) (_ :: _) [] _)) none _) _) _ _ _); k_dflt (refine' raise2 ?F ?g ?O ?h ?_ ?a ?b ?c ?d ?e; (case F => k_asm); (case g => exact TopRead.g (by k_asm)); (case O => exact own_of_in (by k_asm) (by k_asm) (by k_is) (by k_exc)); (case h => first | rfl | assumption); (case a => rfl); (case b => rfl); (case c => rfl); (case d => rfl); (case e => decide); k_whole)))
local macro_rules | `(tactic| walk_at "leaving ref") => `(tactic| (k_here; (refine' leave_raiseS ?k1 ?k0 ?k2 ?k3 ?_; (case k0 => assumption); (case k2 => assumption); (case k1 => assumption); (case k3 => k_asm); k_whole; intro h' t' S' R' U'; (try dsimp only at S' R' U' ⊢))))
local macro_rules | `(tactic| walk_at "callWith ref") => `(tactic| (k_here; (with_reducible show wpAny _ _ (callWith _ (Value.ref _) _ (backTo _ (starEach (_ :: _) _)) (backToKw _ (keywordEach (_ :: _) _))) _ _ _); kfb_any; k_dflt (refine' callWithKw ?kfbN ?kfbM ?kfbA ?_; (case kfbN => k_asm); (case kfbM => k_mem); (case kfbA => exact rfl); k_whole)))
local macro_rules | `(tactic| walk_at "call ref") => `(tactic| (k_here; (with_reducible show wpAny _ _ (call (Value.ref _) [Value.bytes _ _] (_ :: _)) _ _ _); kfb_any; k_dflt (first
  | (refine callBig (by k_asm) (by k_mem) (by kba_ints2) (by kba_size) ?_)
  | (refine callLittle (by k_asm) (by k_mem) (by kba_ints2) (by kba_size) ?_)); intro _ _))
local macro_rules | `(tactic| walk_at "fc enterT") => `(tactic| k_dflt (
  (refine' code_defT ?k1 ?k2 ?k3 ?k4 ?k5 ?kA ?kF ?kK ?k6 ?k7 ?k8 ?k9 ?kB ?_ ?c2 ?c3 ?c4 ?c5; (case kA => exact rfl); (case kF => exact rfl); (case kK => first | exact rfl | assumption); (case k1 => k_asm); (case k2 => k_asm); (case k3 => k_asm); (case k4 => k_asm); (case k5 => k_asm); (case k6 => k_is); (case k7 => k_is); (case k8 => ktr_room); (case k9 => first | exact BindsTo.of_eq rfl | exact binds_K (by k_in) rfl (by k_is) rfl rfl rfl); (case c5 => decide); (case kB => exact locs rfl); (case c2 => exact rfl); (case c3 => exact rfl); (case c4 => exact rfl); k_whole; intro g' L' h' FG' F' N' B' X' T' D'; (try dsimp only))))
local macro_rules | `(tactic| walk_at "fc enterS") => `(tactic| k_dflt (
  (refine' code_defS ?k1 ?k2 ?k3 ?k4 ?k5 ?XB ?TB ?D ?T0 ?kA ?k6 ?k7 ?k8 ?k9 ?kB ?_ ?cK ?c2 ?c3 ?c4 ?c5; (case kA => exact rfl); (case k2 => k_asm); (case k1 => k_asm); (case XB => assumption); (case TB => assumption); (case D => assumption); (case T0 => first | assumption | exact KtsTurn.refl); (case k3 => k_asm); (case k4 => k_asm); (case k5 => k_asm); (case k6 => k_is); (case k7 => k_is); (case k8 => ktr_room); (case k9 => first | exact BindsTo.of_eq rfl | exact binds_K (by k_in) rfl (by k_is) rfl rfl rfl); (case kB => exact locs rfl); (case cK => first | exact rfl | assumption); (case c2 => exact rfl); (case c3 => exact rfl); (case c4 => exact rfl); (case c5 => decide); k_whole; intro g' L' h' FG' F' N' B' X' T' D'; (try dsimp only))))
local macro_rules | `(tactic| walk_at "subscriptTail Name Slice ref ref") => `(tactic| (k_here; (with_reducible show wpAny _ _ (subscriptTail _ (PySem.Expr.Slice (some _) none none _) (Value.ref _) (Value.ref _)) _ _ _); k_dflt (refine' kmk_slice_ints ?F ?N ?l ?p ?q ?i (kmk_from ?i2 ?nn) rfl ?_ ?s ?t ?z; (case F => k_asm); (case N => k_asm); (case i => assumption); (case l => exact News.isList (by k_asm) (by k_mem)); (case p => kmk_part); (case q => kmk_part); (case i2 => assumption); (case nn => omega); (case s => with_unfolding_all rfl); (case t => kmk_pure); (case z => (rw [List.size_toArray, IntsAre.length (by assumption), sizeLine_eq]; omega)); k_whole); intro D' ws' h' F' N' l1 hI' hc' hle'; (try k_lt l1)))
local macro_rules | `(tactic| walk_at "subscriptTail Name Slice ref ref") => `(tactic| (k_here; (with_reducible show wpAny _ _ (subscriptTail _ (PySem.Expr.Slice (some _) (some _) none _) (Value.ref _) (Value.ref _)) _ _ _); k_dflt (refine' kmk_slice_ints ?F ?N ?l ?p ?q ?i (kmk_run ?i2 ?nn ?n2) rfl ?_ ?s ?t ?z; (case F => k_asm); (case N => k_asm); (case i => assumption); (case l => exact News.isList (by k_asm) (by k_mem)); (case p => kmk_part); (case q => kmk_part); (case i2 => assumption); (case nn => omega); (case n2 => omega); (case s => with_unfolding_all rfl); (case t => kmk_pure); (case z => (rw [List.size_toArray, IntsAre.length (by assumption), sizeLine_eq]; omega)); k_whole); intro D' ws' h' F' N' l1 hI' hc' hle'; (try k_lt l1)))

theorem spec_readEnd {w : World} {mean : ExcName → Option Value} {mg mb : Str → Option Value} {news : List (Addr × Obj)} {x dx pl l : Addr} {h1 h2 h3 : Int} {k1 k2 k3 tb tn tp tq : Tok} {bs : Array UInt8} {bits : List Int} {ys : List Value} {cp cl' : Nat} {p : Nat} (hxd : @Ne Nat x dx) (hxp : @Ne Nat x pl) (hxl : @Ne Nat x l) (hdp : @Ne Nat dx pl) (hdl : @Ne Nat dx l) (hpl : @Ne Nat pl l)
    (offd : ∀ p ∈ news, p.1 ≠ dx) (offp : ∀ p ∈ news, p.1 ≠ pl) (hbs : KBw.bInts bs = octs bits) (hb : IsBits bits) (hys : IntsAre ys bits) (h8 : bits.length % 8 = 0) (hz : bits.length < 100000) (hp : p ≤ bits.length) :
    SpecT w mean mg mb 260 [.ref x, .ref pl] ((x, instObj 167 dx) :: (dx, rDict h1 h2 h3 k1 k2 k3 bs tb (bits.length : Int) tn (p : Int) tp) :: (pl, listOf #[.ref l, .int (p : Int) tq] cp) :: (l, listOf ys.toArray cl') :: news) 60 600
      (fun r news' => r = .bool true ∧ ∃ p' tp' tq' cp', p' ≤ bits.length ∧ news' = (x, instObj 167 dx) :: (dx, rDict h1 h2 h3 k1 k2 k3 bs tb (bits.length : Int) tn ((p' : Nat) : Int) tp') :: (pl, listOf #[.ref l, .int ((p' : Nat) : Int) tq'] cp') :: (l, listOf ys.toArray cl') :: news) := by
  unfold SpecT
  k_fill
  intro dp un gd cn cs a ccd outer A₀ base g₀ h₀ L m s Q E B F X N T XB TB D T0 hk hd hu hret
  refine wpAny_call ?_
  walk_at "fc enterS"
  k_steps
  all_goals dsimp only
  · skip
    refine' specR_use (spec_exhausted (mean := mean) (mg := mg) (mb := mb) (h1 := h1) (h2 := h2) (h3 := h3) (k1 := k1) (k2 := k2) (k3 := k3) (tb := tb) (tn := tn) (tp := tp) (news := (pl, listOf #[.ref l, .int (p : Int) tq] cp) :: (l, listOf ys.toArray cl') :: news) hxd (by simp only [List.forall_mem_cons]; exact ⟨Ne.symm hdp, Ne.symm hdl, offd⟩) hbs hb h8 hz hp) ?k1 ?k2 ?k3 ?k4 ?k5 ?kK ?kd ?ku ?_ ?_
    case k1 => k_asm
    case k2 => k_asm
    case k3 => k_asm
    case k4 => walk_at "fc pick"
    case k5 => k_asm
    case kK => first | exact rfl | assumption
    case kd => walk_at "fc room"
    case ku => walk_at "fc units"
    · rintro r news' h' tk' F' N' ⟨rfl, hlt, hz0, tp', rfl⟩
      have hany := (num_any (hb.drop p)).mp hz0
      rw [← Int.toNat_natCast p] at hany
      k_steps
      rename News _ L _ _ => kN
      exact hret _ _ _ _ _ (by assumption) (by assumption) kN (by assumption) (by assumption) (by assumption) (by assumption) ⟨rfl, bits.length, _, _, _, by omega, rfl⟩
    · intro G e t' vs h' tk' news' FG S U hr
      rcases hr with ⟨hge, rfl⟩ | ⟨hlt, hne, tp', rfl⟩
      · exfalso; omega
      · have hany : ((bits.drop (p : Int).toNat).any fun x => x == 1) = true := by
          rw [Int.toNat_natCast]
          cases hq : ((bits.drop p).any fun x => x == 1) with
          | true => rfl
          | false => exact absurd ((num_any (hb.drop p)).mpr hq) hne
        k_steps
        rename News _ L _ _ => kN
        exact hret _ _ _ _ _ (by assumption) (by assumption) kN (by assumption) (by assumption) (by assumption) (by assumption) ⟨rfl, bits.length, _, _, _, by omega, rfl⟩
  · skip
    refine' specR_use (spec_exhausted (mean := mean) (mg := mg) (mb := mb) (h1 := h1) (h2 := h2) (h3 := h3) (k1 := k1) (k2 := k2) (k3 := k3) (tb := tb) (tn := tn) (tp := tp) (news := (pl, listOf #[.ref l, .int (p : Int) tq] cp) :: (l, listOf ys.toArray cl') :: news) hxd (by simp only [List.forall_mem_cons]; exact ⟨Ne.symm hdp, Ne.symm hdl, offd⟩) hbs hb h8 hz hp) ?k1 ?k2 ?k3 ?k4 ?k5 ?kK ?kd ?ku ?_ ?_
    case k1 => k_asm
    case k2 => k_asm
    case k3 => k_asm
    case k4 => walk_at "fc pick"
    case k5 => k_asm
    case kK => first | exact rfl | assumption
    case kd => walk_at "fc room"
    case ku => walk_at "fc units"
    · rintro r news' h' tk' F' N' ⟨rfl, hlt, hz0, tp', rfl⟩
      exfalso; omega
    · intro G e t' vs h' tk' news' FG S U hr
      rcases hr with ⟨hge, rfl⟩ | ⟨hlt, hne, tp', rfl⟩
      · k_steps
        rename News _ L _ _ => kN
        exact hret _ _ _ _ _ (by assumption) (by assumption) kN (by assumption) (by assumption) (by assumption) (by assumption) ⟨rfl, p, _, _, _, by omega, rfl⟩
      · exfalso; omega
end
section
local macro_rules | `(tactic| walk_at "fc nil") => `(tactic| fail "none")
set_option maxRecDepth 100000
set_option maxHeartbeats 1500000
local macro_rules | `(tactic| walk_at "fc enter") => `(tactic| k_dflt (first
  | (refine' code_def ?k1 ?k2 ?k3 ?k4 ?k5 ?kA ?kF ?kK ?k6 ?k7 ?k8 ?k9 ?kB ?_ ?c2 ?c3 ?c4 ?c5; (case kA => exact rfl); (case kF => exact rfl); (case kK => first | exact rfl | assumption); (case k1 => k_asm); (case k2 => k_asm); (case k3 => k_asm); (case k4 => k_asm); (case k5 => k_asm); (case k6 => k_is); (case k7 => k_is); (case k8 => ktr_room); (case k9 => first | exact BindsTo.of_eq rfl | exact binds_K (by k_in) rfl (by k_is) rfl rfl rfl); (case c5 => decide); (case kB => exact locs rfl); (case c2 => exact rfl); (case c3 => exact rfl); (case c4 => exact rfl); k_whole; intro g' L' h' FG' F' N' B' X' T'; (try dsimp only); (try k_lift B'); (try k_fold))
  | (refine' code_defC ?k1 ?k2 ?k3 ?k4 ?k5 ?kA ?kF ?kK ?k6 ?k7 ?k8 ?k9 ?kB ?kD ?_ ?c2 ?c3 ?c4; (case kA => exact rfl); (case kF => exact rfl); (case kK => first | exact rfl | assumption); (case k1 => k_asm); (case k2 => k_asm); (case k3 => k_asm); (case k4 => k_asm); (case k5 => k_asm); (case k6 => k_is); (case k7 => k_is); (case k8 => ktr_room); (case k9 => first | exact BindsTo.of_eq rfl | exact binds_K (by k_in) rfl (by k_is) rfl rfl rfl); (case kB => exact rfl); (case kD => decide +kernel); (case c2 => exact rfl); (case c3 => exact rfl); (case c4 => exact rfl); k_whole; intro g' L' h' tk' cells' FG' F' N' Y' B' X' T' l1; (try k_lt l1); k_cells Y'; (try simp only [List.cons_append, List.nil_append] at N'); (try dsimp only); (try k_lift B'); (try k_fold))))
local macro_rules | `(tactic| walk_at "fc enterW") => `(tactic| k_dflt (
  (refine' code_defW ?k1 ?k2 ?k3 ?k4 ?k5 ?kA ?kF ?kK ?k6 ?k7 ?k8 ?k9 ?kB ?_ ?c2 ?c3 ?c4 ?c5; (case kA => exact rfl); (case kF => exact rfl); (case kK => first | exact rfl | assumption); (case k1 => k_asm); (case k2 => k_asm); (case k3 => k_asm); (case k4 => k_asm); (case k5 => k_asm); (case k6 => k_is); (case k7 => k_is); (case k8 => ktr_room); (case k9 => first | exact BindsTo.of_eq rfl | exact binds_K (by k_in) rfl (by k_is) rfl rfl rfl); (case c5 => decide); (case kB => exact locs rfl); (case c2 => exact rfl); (case c3 => exact rfl); (case c4 => exact rfl); k_whole; intro g' L' h' tk' FG' F' N' B' X' T' l1; (try k_lt l1); (try dsimp only); (try k_lift B'))))
local macro_rules | `(tactic| k_all) => `(tactic| exact off_of_lt (by with_reducible assumption))
local macro_rules | `(tactic| k_all) => `(tactic| with_reducible assumption)
local macro_rules | `(tactic| walk_at "fc sub") => `(tactic| (intro p9 h9; simp only [List.mem_cons, List.mem_append] at h9 ⊢; grind))
local macro_rules | `(tactic| walk_at "fc led") => `(tactic| first
  | exact List.forall_mem_nil _
  | (refine' List.forall_mem_cons.mpr ⟨?fa, ?fb⟩; (case fa => k_mem); (case fb => walk_at "fc led"))
  | (intro p9 h9; repeat (first | exact h9 | refine List.Mem.tail _ ?_)))
local macro_rules | `(tactic| walk_at "exec While") => `(tactic| (rename ParkWhile => z9; clear z9; refine Parked.go ?_))
local macro_rules | `(tactic| walk_at "exec Try") => `(tactic| (rename ParkTry => z9; clear z9; refine Parked.go ?_))
local macro_rules | `(tactic| walk_at "exec For") => `(tactic| (rename ParkFor => z9; clear z9; refine Parked.go ?_))
local macro_rules | `(tactic| walk_at "exec For Name Call") => `(tactic| (rename ParkFor => z9; clear z9; refine Parked.go ?_))
local macro_rules | `(tactic| walk_at "exec For Name Call cons nil") => `(tactic| (rename ParkFor => z9; clear z9; refine Parked.go ?_))
local macro_rules | `(tactic| walk_at "exec For Name Name") => `(tactic| (rename ParkFor => z9; clear z9; refine Parked.go ?_))
local macro_rules | `(tactic| walk_at "exec For Name Name cons nil") => `(tactic| (rename ParkFor => z9; clear z9; refine Parked.go ?_))
local macro_rules | `(tactic| walk_at "exec For Name List cons nil") => `(tactic| (rename ParkFor => z9; clear z9; refine Parked.go ?_))
local macro_rules | `(tactic| walk_at "fc pick") => `(tactic| first | k_asm | (rename News _ _ _ _ => z9; exact cb_drop z9 (by walk_at "fc led")))
local macro_rules | `(tactic| walk_at "fc room") => `(tactic| first | omega | ((try simp only [depth_under_make, depth_under_kw, depth_in1, depth_deeper, depth_caller]); (try dsimp only [ktrTop]); omega) | ktr_room)
local macro_rules | `(tactic| walk_at "fc units") => `(tactic| first | omega | (have hcL9 := cLine_is; (try simp only [units_in1, units_deeper, Around.mark_units, units_caller]); (try dsimp only [ktrTop]); omega) | ktr_units)

local macro_rules | `(tactic| walk_at "exec Raise some none") => `(tactic| (k_here; (with_reducible show wpAny _ _ (exec (Stmt.Raise (some (Expr.Call (Expr.Name _ _) (_ :: _) [] _)) none _) _) _ _ _); k_dflt (refine' raise2 ?F ?g ?O ?h ?_ ?a ?b ?c ?d ?e; (case F => k_asm); (case g => exact TopRead.g (by k_asm)); (case O => exact own_of_in (by k_asm) (by k_asm) (by k_is) (by k_exc)); (case h => first | rfl | assumption); (case a => rfl); (case b => rfl); (case c => rfl); (case d => rfl); (case e => decide); k_whole)))
local macro_rules | `(tactic| walk_at "leaving ref") => `(tactic| (k_here; (refine' leave_raiseS ?k1 ?k0 ?k2 ?k3 ?_; (case k0 => assumption); (case k2 => assumption); (case k1 => assumption); (case k3 => k_asm); k_whole; intro h' t' S' R' U'; (try dsimp only at S' R' U' ⊢))))
local macro_rules | `(tactic| walk_at "callWith ref") => `(tactic| (k_here; (with_reducible show wpAny _ _ (callWith _ (Value.ref _) _ (backTo _ (starEach (_ :: _) _)) (backToKw _ (keywordEach (_ :: _) _))) _ _ _); kfb_any; k_dflt (refine' callWithKw ?kfbN ?kfbM ?kfbA ?_; (case kfbN => k_asm); (case kfbM => k_mem); (case kfbA => exact rfl); k_whole)))
local macro_rules | `(tactic| walk_at "call ref") => `(tactic| (k_here; (with_reducible show wpAny _ _ (call (Value.ref _) [Value.bytes _ _] (_ :: _)) _ _ _); kfb_any; k_dflt (first
  | (refine callBig (by k_asm) (by k_mem) (by kba_ints2) (by kba_size) ?_)
  | (refine callLittle (by k_asm) (by k_mem) (by kba_ints2) (by kba_size) ?_)); intro _ _))
local macro_rules | `(tactic| walk_at "fc enterT") => `(tactic| k_dflt (
  (refine' code_defT ?k1 ?k2 ?k3 ?k4 ?k5 ?kA ?kF ?kK ?k6 ?k7 ?k8 ?k9 ?kB ?_ ?c2 ?c3 ?c4 ?c5; (case kA => exact rfl); (case kF => exact rfl); (case kK => first | exact rfl | assumption); (case k1 => k_asm); (case k2 => k_asm); (case k3 => k_asm); (case k4 => k_asm); (case k5 => k_asm); (case k6 => k_is); (case k7 => k_is); (case k8 => ktr_room); (case k9 => first | exact BindsTo.of_eq rfl | exact binds_K (by k_in) rfl (by k_is) rfl rfl rfl); (case c5 => decide); (case kB => exact locs rfl); (case c2 => exact rfl); (case c3 => exact rfl); (case c4 => exact rfl); k_whole; intro g' L' h' FG' F' N' B' X' T' D'; (try dsimp only))))
local macro_rules | `(tactic| walk_at "fc enterS") => `(tactic| k_dflt (
  (refine' code_defS ?k1 ?k2 ?k3 ?k4 ?k5 ?XB ?TB ?D ?T0 ?kA ?k6 ?k7 ?k8 ?k9 ?kB ?_ ?cK ?c2 ?c3 ?c4 ?c5; (case kA => exact rfl); (case k2 => k_asm); (case k1 => k_asm); (case XB => assumption); (case TB => assumption); (case D => assumption); (case T0 => first | assumption | exact KtsTurn.refl); (case k3 => k_asm); (case k4 => k_asm); (case k5 => k_asm); (case k6 => k_is); (case k7 => k_is); (case k8 => ktr_room); (case k9 => first | exact BindsTo.of_eq rfl | exact binds_K (by k_in) rfl (by k_is) rfl rfl rfl); (case kB => exact locs rfl); (case cK => first | exact rfl | assumption); (case c2 => exact rfl); (case c3 => exact rfl); (case c4 => exact rfl); (case c5 => decide); k_whole; intro g' L' h' FG' F' N' B' X' T' D'; (try dsimp only))))
local macro_rules | `(tactic| walk_at "subscriptTail Name Slice ref ref") => `(tactic| (k_here; (with_reducible show wpAny _ _ (subscriptTail _ (PySem.Expr.Slice (some _) none none _) (Value.ref _) (Value.ref _)) _ _ _); k_dflt (refine' kmk_slice_ints ?F ?N ?l ?p ?q ?i (kmk_from ?i2 ?nn) rfl ?_ ?s ?t ?z; (case F => k_asm); (case N => k_asm); (case i => assumption); (case l => exact News.isList (by k_asm) (by k_mem)); (case p => kmk_part); (case q => kmk_part); (case i2 => assumption); (case nn => omega); (case s => with_unfolding_all rfl); (case t => kmk_pure); (case z => (rw [List.size_toArray, IntsAre.length (by assumption), sizeLine_eq]; omega)); k_whole); intro D' ws' h' F' N' l1 hI' hc' hle'; (try k_lt l1)))
local macro_rules | `(tactic| walk_at "subscriptTail Name Slice ref ref") => `(tactic| (k_here; (with_reducible show wpAny _ _ (subscriptTail _ (PySem.Expr.Slice (some _) (some _) none _) (Value.ref _) (Value.ref _)) _ _ _); k_dflt (refine' kmk_slice_ints ?F ?N ?l ?p ?q ?i (kmk_run ?i2 ?nn ?n2) rfl ?_ ?s ?t ?z; (case F => k_asm); (case N => k_asm); (case i => assumption); (case l => exact News.isList (by k_asm) (by k_mem)); (case p => kmk_part); (case q => kmk_part); (case i2 => assumption); (case nn => omega); (case n2 => omega); (case s => with_unfolding_all rfl); (case t => kmk_pure); (case z => (rw [List.size_toArray, IntsAre.length (by assumption), sizeLine_eq]; omega)); k_whole); intro D' ws' h' F' N' l1 hI' hc' hle'; (try k_lt l1)))

theorem ones_unique {bits : List Int} {p i j : Nat} (hi : OnesAt bits p i) (hi0 : bits[p + i]? = some 0) (hj : OnesAt bits p j) (hj0 : bits[p + j]? = some 0) : i = j := by
  rcases Nat.lt_trichotomy i j with h | h | h
  · have := hj.2 i h; rw [hi0] at this; cases this
  · exact h
  · have := hi.2 j h; rw [hj0] at this; cases this
theorem spec_readCoded {w : World} {mean : ExcName → Option Value} {mg mb : Str → Option Value} {news : List (Addr × Obj)} {x dx pl l : Addr} {h1 h2 h3 : Int} {k1 k2 k3 tb tn tp tq : Tok} {bs : Array UInt8} {bits : List Int} {ys : List Value} {cp cl' : Nat} {p c : Nat} {tc : Tok} (hxd : @Ne Nat x dx) (hxp : @Ne Nat x pl) (hxl : @Ne Nat x l) (hdp : @Ne Nat dx pl) (hdl : @Ne Nat dx l) (hpl : @Ne Nat pl l)
    (offd : ∀ p ∈ news, p.1 ≠ dx) (offp : ∀ p ∈ news, p.1 ≠ pl) (hbs : KBw.bInts bs = octs bits) (hb : IsBits bits) (hys : IntsAre ys bits) (h8 : bits.length % 8 = 0) (hz : bits.length < 100000) (hp : p ≤ bits.length) (hc : c < 20) :
    SpecT w mean mg mb 253 [.ref x, .ref pl, .int (c : Int) tc] ((x, instObj 167 dx) :: (dx, rDict h1 h2 h3 k1 k2 k3 bs tb (bits.length : Int) tn (p : Int) tp) :: (pl, listOf #[.ref l, .int (p : Int) tq] cp) :: (l, listOf ys.toArray cl') :: news) 60 600
      (fun r news' => r = .bool true ∧ ∃ p' tp' tq' cp', p' ≤ bits.length ∧ news' = (x, instObj 167 dx) :: (dx, rDict h1 h2 h3 k1 k2 k3 bs tb (bits.length : Int) tn ((p' : Nat) : Int) tp') :: (pl, listOf #[.ref l, .int ((p' : Nat) : Int) tq'] cp') :: (l, listOf ys.toArray cl') :: news) := by
  unfold SpecT
  k_fill
  intro dp un gd cn cs a ccd outer A₀ base g₀ h₀ L m s Q E B F X N T XB TB D T0 hk hd hu hret
  refine wpAny_call ?_
  walk_at "fc enterS"
  have parkW : ParkWhile := trivial
  k_steps
  refine whileMK (L := _) (n₀ := bits.length - p) (fun m₀ n m' news' => (∃ j t, m' = (fun y => if y = Str.ofString "ones" then some (.int ((j : Nat) : Int) t) else m₀ y) ∧ n = bits.length - (p + j) ∧ OnesAt bits p j) ∧ news' = (x, instObj 167 dx) :: (dx, rDict h1 h2 h3 k1 k2 k3 bs tb (bits.length : Int) tn (p : Int) tp) :: (pl, listOf #[.ref l, .int (p : Int) tq] cp) :: (l, listOf ys.toArray cl') :: news)
    (fun m₀ m' news' => (∃ j t, m' = (fun y => if y = Str.ofString "ones" then some (.int ((j : Nat) : Int) t) else m₀ y) ∧ OnesAt bits p j ∧ (bits.length = p + j ∨ bits[p + j]? = some 0)) ∧ news' = (x, instObj 167 dx) :: (dx, rDict h1 h2 h3 k1 k2 k3 bs tb (bits.length : Int) tn (p : Int) tp) :: (pl, listOf #[.ref l, .int (p : Int) tq] cp) :: (l, listOf ys.toArray cl') :: news)
    (by k_asm) (by k_asm) ⟨⟨0, _, frame1 rfl fun _ _ => rfl, rfl, ⟨by omega, fun i hi => absurd hi (by omega)⟩⟩, rfl⟩ ?_ ?_
  · rintro n m₁ news₁ h₁ tk₁ F₁ N₁ ⟨⟨j, t, rfl, rfl, hj⟩, rfl⟩
    have hpj := hj.1
    k_steps
    · rename (bits.getD _ _ = 1) => hone
      rename Fr _ _ _ _ => F9
      rename News _ _ _ _ => N9
      have hlt : p + j < bits.length := by omega
      rw [show ((p : Int) + (j : Int)).toNat = p + j by omega, List.getD_eq_getElem?_getD, List.getElem?_eq_getElem hlt] at hone
      refine WhileStep.intro (n' := bits.length - (p + (j + 1))) F9 N9 (by omega) ⟨⟨j + 1, _, frame1 (congrArg (fun z => some (Value.int z _)) (show (j : Int) + 1 = ((j + 1 : Nat) : Int) by omega)) (fun n e => by simp only [e, if_false]), rfl, ⟨by omega, fun i hi => ?_⟩⟩, rfl⟩
      by_cases hij : i = j
      · rw [hij, List.getElem?_eq_getElem hlt]; exact congrArg some hone
      · exact hj.2 i (by omega)
    · rename (bits.getD _ _ ≠ 1) => hone
      have hlt : p + j < bits.length := by omega
      rw [show ((p : Int) + (j : Int)).toNat = p + j by omega, List.getD_eq_getElem?_getD, List.getElem?_eq_getElem hlt] at hone
      refine WhileStop.intro F₁ N₁ ⟨⟨j, t, rfl, hj, .inr ?_⟩, rfl⟩
      rw [List.getElem?_eq_getElem hlt]
      rcases hb _ (List.getElem_mem hlt) with h0 | h0
      · rw [h0]
      · exact absurd h0 hone
    · exact WhileStop.intro F₁ N₁ ⟨⟨j, t, rfl, hj, .inl (by omega)⟩, rfl⟩
  · rintro m' news' h tk F₁ N₁ ⟨⟨j, t, rfl, hj, hend⟩, rfl⟩
    have hpj := hj.1
    dsimp only
    k_steps
    all_goals try dsimp only
    · have hlt0 : p + j < bits.length := by omega
      have hz1 : bits[p + j]? = some 0 := by
        rcases hend with h | h
        · omega
        · exact h
      refine' specR_use (spec_decode (mean := mean) (mg := mg) (mb := mb) (h1 := h1) (h2 := h2) (h3 := h3) (k1 := k1) (k2 := k2) (k3 := k3) (tb := tb) (tn := tn) (tp := tp) (p := p) (c := c) (news := (pl, listOf #[.ref l, .int (p : Int) tq] cp) :: (l, listOf ys.toArray cl') :: news) hxd (by simp only [List.forall_mem_cons]; exact ⟨Ne.symm hdp, Ne.symm hdl, offd⟩) hbs hb h8 hz hp (by omega)) ?k1 ?k2 ?k3 ?k4 ?k5 ?kK ?kd ?ku ?_ ?_
      case k1 => k_asm
      case k2 => k_asm
      case k3 => k_asm
      case k4 => walk_at "fc pick"
      case k5 => k_asm
      case kK => first | exact rfl | assumption
      case kd => walk_at "fc room"
      case ku => walk_at "fc units"
      · rintro r news' h' tk' F' N' ⟨j', hj', hj0', hle, t2, tp2, rfl, rfl⟩
        have ej := ones_unique hj' hj0' hj hz1
        subst ej
        k_steps
        rename IntsAre _ (List.take _ _) => hws
        have eB : (bits.drop ((p : Int) + (j' : Int) + 1).toNat).take (min ((p : Int) + (j' : Int) + 1 + (c : Int)).toNat bits.length - ((p : Int) + (j' : Int) + 1).toNat) = (bits.drop (p + j' + 1)).take c := by
          rw [show ((p : Int) + (j' : Int) + 1).toNat = p + j' + 1 by omega, show min ((p : Int) + (j' : Int) + 1 + (c : Int)).toNat bits.length - (p + j' + 1) = c by omega]
        rw [eB] at hws
        refine' spec_use (spec_number hws) ?k1 ?k2 ?k3 ?k4 ?k5 ?kK ?kd ?ku ?_
        case k1 => k_asm
        case k2 => k_asm
        case k3 => k_asm
        case k4 => walk_at "fc pick"
        case k5 => k_asm
        case kK => first | exact rfl | assumption
        case kd => walk_at "fc room"
        case ku => walk_at "fc units"
        rintro r news' h' tk' F' N' ⟨t3, rfl, rfl⟩
        k_steps
        · exfalso
          rename (_ ≠ _ + num _) => hne
          rw [Int.toNat_natCast] at hne
          exact hne rfl
        · rename News _ L _ _ => kN
          rw [show (p : Int) + (j' : Int) + 1 + (c : Int) = ((p + j' + 1 + c : Nat) : Int) by omega] at kN
          exact hret _ _ _ _ _ (by assumption) (by assumption) (cb_drop (news := (x, instObj 167 dx) :: (dx, rDict h1 h2 h3 k1 k2 k3 bs tb (bits.length : Int) tn ((p + j' + 1 + c : Nat) : Int) tp2) :: (pl, listOf #[.ref l, .int ((p + j' + 1 + c : Nat) : Int) _] cp) :: (l, listOf ys.toArray cl') :: news) kN (by walk_at "fc led")) (by assumption) (by assumption) (by assumption) (by assumption) ⟨rfl, p + j' + 1 + c, _, _, _, by omega, rfl⟩
      · intro G e t' vs h' tk' news' FG S U hr
        obtain ⟨q, tp2, rfl, ⟨rfl, ho⟩ | ⟨j', hj', hj0', hlt', rfl⟩⟩ := hr
        · exfalso
          have := ho.2 j (by omega)
          rw [hz1] at this
          cases this
        · have ej := ones_unique hj' hj0' hj hz1
          subst ej
          k_steps
          rename News _ L _ _ => kN
          rw [show (p : Int) + (j' : Int) + 1 = ((p + j' + 1 : Nat) : Int) by omega] at kN
          exact hret _ _ _ _ _ (by assumption) (by assumption) kN (by assumption) (by assumption) (by assumption) (by assumption) ⟨rfl, p + j' + 1, _, _, _, by omega, rfl⟩
    · have hend' : bits.length = p + j := by omega
      refine' specR_use (spec_decode (mean := mean) (mg := mg) (mb := mb) (h1 := h1) (h2 := h2) (h3 := h3) (k1 := k1) (k2 := k2) (k3 := k3) (tb := tb) (tn := tn) (tp := tp) (p := p) (c := c) (news := (pl, listOf #[.ref l, .int (p : Int) tq] cp) :: (l, listOf ys.toArray cl') :: news) hxd (by simp only [List.forall_mem_cons]; exact ⟨Ne.symm hdp, Ne.symm hdl, offd⟩) hbs hb h8 hz hp (by omega)) ?k1 ?k2 ?k3 ?k4 ?k5 ?kK ?kd ?ku ?_ ?_
      case k1 => k_asm
      case k2 => k_asm
      case k3 => k_asm
      case k4 => walk_at "fc pick"
      case k5 => k_asm
      case kK => first | exact rfl | assumption
      case kd => walk_at "fc room"
      case ku => walk_at "fc units"
      · rintro r news' h' tk' F' N' ⟨j', hj', hj0', hle, t2, tp2, rfl, rfl⟩
        exfalso
        have hl' := (List.getElem?_eq_some_iff.mp hj0').1
        have := hj.2 j' (by omega)
        rw [hj0'] at this
        cases this
      · intro G e t' vs h' tk' news' FG S U hr
        obtain ⟨q, tp2, rfl, ⟨rfl, ho⟩ | ⟨j', hj', hj0', hlt', rfl⟩⟩ := hr
        · k_steps
          rename News _ L _ _ => kN
          exact hret _ _ _ _ _ (by assumption) (by assumption) kN (by assumption) (by assumption) (by assumption) (by assumption) ⟨rfl, bits.length, _, _, _, by omega, rfl⟩
        · exfalso
          have hl' := (List.getElem?_eq_some_iff.mp hj0').1
          have := hj.2 j' (by omega)
          rw [hj0'] at this
          cases this
end
section
set_option maxRecDepth 100000
set_option maxHeartbeats 1500000
local macro_rules | `(tactic| walk_at "fc enter") => `(tactic| k_dflt (first
  | (refine' code_def ?k1 ?k2 ?k3 ?k4 ?k5 ?kA ?kF ?kK ?k6 ?k7 ?k8 ?k9 ?kB ?_ ?c2 ?c3 ?c4 ?c5; (case kA => exact rfl); (case kF => exact rfl); (case kK => first | exact rfl | assumption); (case k1 => k_asm); (case k2 => k_asm); (case k3 => k_asm); (case k4 => k_asm); (case k5 => k_asm); (case k6 => k_is); (case k7 => k_is); (case k8 => ktr_room); (case k9 => first | exact BindsTo.of_eq rfl | exact binds_K (by k_in) rfl (by k_is) rfl rfl rfl); (case c5 => decide); (case kB => exact locs rfl); (case c2 => exact rfl); (case c3 => exact rfl); (case c4 => exact rfl); k_whole; intro g' L' h' FG' F' N' B' X' T'; (try dsimp only); (try k_lift B'); (try k_fold))
  | (refine' code_defC ?k1 ?k2 ?k3 ?k4 ?k5 ?kA ?kF ?kK ?k6 ?k7 ?k8 ?k9 ?kB ?kD ?_ ?c2 ?c3 ?c4; (case kA => exact rfl); (case kF => exact rfl); (case kK => first | exact rfl | assumption); (case k1 => k_asm); (case k2 => k_asm); (case k3 => k_asm); (case k4 => k_asm); (case k5 => k_asm); (case k6 => k_is); (case k7 => k_is); (case k8 => ktr_room); (case k9 => first | exact BindsTo.of_eq rfl | exact binds_K (by k_in) rfl (by k_is) rfl rfl rfl); (case kB => exact rfl); (case kD => decide +kernel); (case c2 => exact rfl); (case c3 => exact rfl); (case c4 => exact rfl); k_whole; intro g' L' h' tk' cells' FG' F' N' Y' B' X' T' l1; (try k_lt l1); k_cells Y'; (try simp only [List.cons_append, List.nil_append] at N'); (try dsimp only); (try k_lift B'); (try k_fold))))
local macro_rules | `(tactic| walk_at "fc enterW") => `(tactic| k_dflt (
  (refine' code_defW ?k1 ?k2 ?k3 ?k4 ?k5 ?kA ?kF ?kK ?k6 ?k7 ?k8 ?k9 ?kB ?_ ?c2 ?c3 ?c4 ?c5; (case kA => exact rfl); (case kF => exact rfl); (case kK => first | exact rfl | assumption); (case k1 => k_asm); (case k2 => k_asm); (case k3 => k_asm); (case k4 => k_asm); (case k5 => k_asm); (case k6 => k_is); (case k7 => k_is); (case k8 => ktr_room); (case k9 => first | exact BindsTo.of_eq rfl | exact binds_K (by k_in) rfl (by k_is) rfl rfl rfl); (case c5 => decide); (case kB => exact locs rfl); (case c2 => exact rfl); (case c3 => exact rfl); (case c4 => exact rfl); k_whole; intro g' L' h' tk' FG' F' N' B' X' T' l1; (try k_lt l1); (try dsimp only); (try k_lift B'))))
local macro_rules | `(tactic| k_all) => `(tactic| exact off_of_lt (by with_reducible assumption))
local macro_rules | `(tactic| k_all) => `(tactic| with_reducible assumption)
local macro_rules | `(tactic| walk_at "fc sub") => `(tactic| (intro p9 h9; simp only [List.mem_cons, List.mem_append] at h9 ⊢; grind))
local macro_rules | `(tactic| walk_at "fc led") => `(tactic| first
  | exact List.forall_mem_nil _
  | (refine' List.forall_mem_cons.mpr ⟨?fa, ?fb⟩; (case fa => k_mem); (case fb => walk_at "fc led"))
  | (intro p9 h9; repeat (first | exact h9 | refine List.Mem.tail _ ?_)))
local macro_rules | `(tactic| walk_at "exec While") => `(tactic| (rename ParkWhile => z9; clear z9; refine Parked.go ?_))
local macro_rules | `(tactic| walk_at "exec Try") => `(tactic| (rename ParkTry => z9; clear z9; refine Parked.go ?_))
local macro_rules | `(tactic| walk_at "exec For") => `(tactic| (rename ParkFor => z9; clear z9; refine Parked.go ?_))
local macro_rules | `(tactic| walk_at "exec For Name Call") => `(tactic| (rename ParkFor => z9; clear z9; refine Parked.go ?_))
local macro_rules | `(tactic| walk_at "exec For Name Call cons nil") => `(tactic| (rename ParkFor => z9; clear z9; refine Parked.go ?_))
local macro_rules | `(tactic| walk_at "exec For Name Name") => `(tactic| (rename ParkFor => z9; clear z9; refine Parked.go ?_))
local macro_rules | `(tactic| walk_at "exec For Name Name cons nil") => `(tactic| (rename ParkFor => z9; clear z9; refine Parked.go ?_))
local macro_rules | `(tactic| walk_at "exec For Name List cons nil") => `(tactic| (rename ParkFor => z9; clear z9; refine Parked.go ?_))
local macro_rules | `(tactic| walk_at "fc pick") => `(tactic| first | k_asm | (rename News _ _ _ _ => z9; exact cb_drop z9 (by walk_at "fc led")))
local macro_rules | `(tactic| walk_at "fc room") => `(tactic| first | omega | ((try simp only [depth_under_make, depth_under_kw, depth_in1, depth_deeper, depth_caller]); (try dsimp only [ktrTop]); omega) | ktr_room)
local macro_rules | `(tactic| walk_at "fc units") => `(tactic| first | omega | (have hcL9 := cLine_is; (try simp only [units_in1, units_deeper, Around.mark_units, units_caller]); (try dsimp only [ktrTop]); omega) | ktr_units)

local macro_rules | `(tactic| walk_at "exec Raise some none") => `(tactic| (k_here; (with_reducible show wpAny _ _ (exec (Stmt.Raise (some (Expr.Call (Expr.Name _ _) (_ :: _) [] _)) none _) _) _ _ _); k_dflt (refine' raise2 ?F ?g ?O ?h ?_ ?a ?b ?c ?d ?e; (case F => k_asm); (case g => exact TopRead.g (by k_asm)); (case O => exact own_of_in (by k_asm) (by k_asm) (by k_is) (by k_exc)); (case h => first | rfl | assumption); (case a => rfl); (case b => rfl); (case c => rfl); (case d => rfl); (case e => decide); k_whole)))
local macro_rules | `(tactic| walk_at "leaving ref") => `(tactic| (k_here; (refine' leave_raiseS ?k1 ?k0 ?k2 ?k3 ?_; (case k0 => assumption); (case k2 => assumption); (case k1 => assumption); (case k3 => k_asm); k_whole; intro h' t' S' R' U'; (try dsimp only at S' R' U' ⊢))))
local macro_rules | `(tactic| walk_at "callWith ref") => `(tactic| (k_here; (with_reducible show wpAny _ _ (callWith _ (Value.ref _) _ (backTo _ (starEach (_ :: _) _)) (backToKw _ (keywordEach (_ :: _) _))) _ _ _); kfb_any; k_dflt (refine' callWithKw ?kfbN ?kfbM ?kfbA ?_; (case kfbN => k_asm); (case kfbM => k_mem); (case kfbA => exact rfl); k_whole)))
local macro_rules | `(tactic| walk_at "call ref") => `(tactic| (k_here; (with_reducible show wpAny _ _ (call (Value.ref _) [Value.bytes _ _] (_ :: _)) _ _ _); kfb_any; k_dflt (first
  | (refine callBig (by k_asm) (by k_mem) (by kba_ints2) (by kba_size) ?_)
  | (refine callLittle (by k_asm) (by k_mem) (by kba_ints2) (by kba_size) ?_)); intro _ _))
local macro_rules | `(tactic| walk_at "fc enterT") => `(tactic| k_dflt (
  (refine' code_defT ?k1 ?k2 ?k3 ?k4 ?k5 ?kA ?kF ?kK ?k6 ?k7 ?k8 ?k9 ?kB ?_ ?c2 ?c3 ?c4 ?c5; (case kA => exact rfl); (case kF => exact rfl); (case kK => first | exact rfl | assumption); (case k1 => k_asm); (case k2 => k_asm); (case k3 => k_asm); (case k4 => k_asm); (case k5 => k_asm); (case k6 => k_is); (case k7 => k_is); (case k8 => ktr_room); (case k9 => first | exact BindsTo.of_eq rfl | exact binds_K (by k_in) rfl (by k_is) rfl rfl rfl); (case c5 => decide); (case kB => exact locs rfl); (case c2 => exact rfl); (case c3 => exact rfl); (case c4 => exact rfl); k_whole; intro g' L' h' FG' F' N' B' X' T' D'; (try dsimp only))))
local macro_rules | `(tactic| walk_at "fc enterS") => `(tactic| k_dflt (
  (refine' code_defS ?k1 ?k2 ?k3 ?k4 ?k5 ?XB ?TB ?D ?T0 ?kA ?k6 ?k7 ?k8 ?k9 ?kB ?_ ?cK ?c2 ?c3 ?c4 ?c5; (case kA => exact rfl); (case k2 => k_asm); (case k1 => k_asm); (case XB => assumption); (case TB => assumption); (case D => assumption); (case T0 => first | assumption | exact KtsTurn.refl); (case k3 => k_asm); (case k4 => k_asm); (case k5 => k_asm); (case k6 => k_is); (case k7 => k_is); (case k8 => ktr_room); (case k9 => first | exact BindsTo.of_eq rfl | exact binds_K (by k_in) rfl (by k_is) rfl rfl rfl); (case kB => exact locs rfl); (case cK => first | exact rfl | assumption); (case c2 => exact rfl); (case c3 => exact rfl); (case c4 => exact rfl); (case c5 => decide); k_whole; intro g' L' h' FG' F' N' B' X' T' D'; (try dsimp only))))
local macro_rules | `(tactic| walk_at "subscriptTail Name Slice ref ref") => `(tactic| (k_here; (with_reducible show wpAny _ _ (subscriptTail _ (PySem.Expr.Slice (some _) none none _) (Value.ref _) (Value.ref _)) _ _ _); k_dflt (refine' kmk_slice_ints ?F ?N ?l ?p ?q ?i (kmk_from ?i2 ?nn) rfl ?_ ?s ?t ?z; (case F => k_asm); (case N => k_asm); (case i => assumption); (case l => exact News.isList (by k_asm) (by k_mem)); (case p => kmk_part); (case q => kmk_part); (case i2 => assumption); (case nn => omega); (case s => with_unfolding_all rfl); (case t => kmk_pure); (case z => (rw [List.size_toArray, IntsAre.length (by assumption), sizeLine_eq]; omega)); k_whole); intro D' ws' h' F' N' l1 hI' hc' hle'; (try k_lt l1)))
local macro_rules | `(tactic| walk_at "subscriptTail Name Slice ref ref") => `(tactic| (k_here; (with_reducible show wpAny _ _ (subscriptTail _ (PySem.Expr.Slice (some _) (some _) none _) (Value.ref _) (Value.ref _)) _ _ _); k_dflt (refine' kmk_slice_ints ?F ?N ?l ?p ?q ?i (kmk_run ?i2 ?nn ?n2) rfl ?_ ?s ?t ?z; (case F => k_asm); (case N => k_asm); (case i => assumption); (case l => exact News.isList (by k_asm) (by k_mem)); (case p => kmk_part); (case q => kmk_part); (case i2 => assumption); (case nn => omega); (case n2 => omega); (case s => with_unfolding_all rfl); (case t => kmk_pure); (case z => (rw [List.size_toArray, IntsAre.length (by assumption), sizeLine_eq]; omega)); k_whole); intro D' ws' h' F' N' l1 hI' hc' hle'; (try k_lt l1)))

theorem wd_range' (k : Nat) : 0 ≤ ([0, 1, 3, 19, 5] : List Int).getD k 0 ∧ ([0, 1, 3, 19, 5] : List Int).getD k 0 < 20 := by
  match k with
  | 0 => decide
  | 1 => decide
  | 2 => decide
  | 3 => decide
  | 4 => decide
  | k + 5 => rw [getD_out (by simp)]; decide
theorem count_range {left : Int} (x : Int) (h0 : 0 ≤ left) (h1 : left < 100001) (k : Nat) : ∃ c : Nat, ([left, left + 1, x.fmod 19, 0, 1, x.fmod (left + 1)] : List Int).getD k 0 = (c : Int) ∧ c < 150000 := by
  have a1 : 0 ≤ x.fmod 19 ∧ x.fmod 19 < 19 := by rw [Int.fmod_eq_emod_of_nonneg _ (by decide)]; omega
  have a2 : 0 ≤ x.fmod (left + 1) ∧ x.fmod (left + 1) < left + 1 := by
    rw [Int.fmod_eq_emod_of_nonneg _ (by omega)]
    exact ⟨Int.emod_nonneg _ (by omega), Int.emod_lt_of_pos _ (by omega)⟩
  have key : 0 ≤ ([left, left + 1, x.fmod 19, 0, 1, x.fmod (left + 1)] : List Int).getD k 0 ∧ ([left, left + 1, x.fmod 19, 0, 1, x.fmod (left + 1)] : List Int).getD k 0 < 150000 := by
    match k with
    | 0 => exact ⟨h0, by show left < 150000; omega⟩
    | 1 => exact ⟨by show 0 ≤ left + 1; omega, by show left + 1 < 150000; omega⟩
    | 2 => exact ⟨a1.1, by show x.fmod 19 < 150000; omega⟩
    | 3 => exact ⟨by show (0 : Int) ≤ 0; decide, by show (0 : Int) < 150000; decide⟩
    | 4 => exact ⟨by show (0 : Int) ≤ 1; decide, by show (1 : Int) < 150000; decide⟩
    | 5 => exact ⟨a2.1, by show x.fmod (left + 1) < 150000; omega⟩
    | k + 6 => rw [getD_out (by simp)]; decide
  exact ⟨_, (Int.toNat_of_nonneg key.1).symm, by omega⟩
theorem spec_lawRead {w : World} {mean : ExcName → Option Value} {mg mb : Str → Option Value} {news : List (Addr × Obj)} {x dx pl l : Addr} {h1 h2 h3 : Int} {k1 k2 k3 tb tn tp tq : Tok} {bs : Array UInt8} {bits : List Int} {ys : List Value} {cp cl' : Nat} {p : Nat} {n : Int} {tn' : Tok} (hxd : @Ne Nat x dx) (hxp : @Ne Nat x pl) (hxl : @Ne Nat x l) (hdp : @Ne Nat dx pl) (hdl : @Ne Nat dx l) (hpl : @Ne Nat pl l)
    (offd : ∀ p ∈ news, p.1 ≠ dx) (offp : ∀ p ∈ news, p.1 ≠ pl) (hbs : KBw.bInts bs = octs bits) (hb : IsBits bits) (hys : IntsAre ys bits) (h8 : bits.length % 8 = 0) (hz : bits.length < 100000) (hp : p ≤ bits.length) (hn : 0 ≤ n) :
    Spec0 w mean mg mb 239 [.ref x, .ref pl, .int n tn'] ((x, instObj 167 dx) :: (dx, rDict h1 h2 h3 k1 k2 k3 bs tb (bits.length : Int) tn (p : Int) tp) :: (pl, listOf #[.ref l, .int (p : Int) tq] cp) :: (l, listOf ys.toArray cl') :: news) 90 900
      (fun r news' => r = .bool true ∧ ∃ p' tp' tq' cp', p' ≤ bits.length ∧ news' = (x, instObj 167 dx) :: (dx, rDict h1 h2 h3 k1 k2 k3 bs tb (bits.length : Int) tn ((p' : Nat) : Int) tp') :: (pl, listOf #[.ref l, .int ((p' : Nat) : Int) tq'] cp') :: (l, listOf ys.toArray cl') :: news) := by
  unfold Spec0
  k_fill
  intro dp un gd cn cs a ccd cl A₀ base h₀ L m s Q E B F X N T XB TB hk hd hu hret
  refine wpAny_call ?_
  walk_at "fc enterT"
  k_steps
  · have kk0 : 0 ≤ (n.fdiv 5).fmod 6 := by rw [Int.fmod_eq_emod_of_nonneg _ (by decide)]; omega
    have kk1 : (n.fdiv 5).fmod 6 < 6 := by rw [Int.fmod_eq_emod_of_nonneg _ (by decide)]; omega
    obtain ⟨c, hcv, hcb⟩ := count_range (left := (bits.length : Int) - (p : Int)) (n.fdiv 5) (by omega) (by omega) ((n.fdiv 5).fmod 6).toNat
    generalize ([(bits.length : Int) - (p : Int), (bits.length : Int) - (p : Int) + 1, (n.fdiv 5).fmod 19, 0, 1, (n.fdiv 5).fmod ((bits.length : Int) - (p : Int) + 1)] : List Int).getD ((n.fdiv 5).fmod 6).toNat 0 = cv at *
    subst hcv
    refine' specR_use (spec_read (mean := mean) (mg := mg) (mb := mb) (h1 := h1) (h2 := h2) (h3 := h3) (k1 := k1) (k2 := k2) (k3 := k3) (tb := tb) (tn := tn) (tp := tp) (p := p) (c := c) (news := (pl, listOf #[.ref l, .int (p : Int) tq] cp) :: (l, listOf ys.toArray cl') :: news) hxd (by simp only [List.forall_mem_cons]; exact ⟨Ne.symm hdp, Ne.symm hdl, offd⟩) hbs hb h8 hz hp (by omega)) ?k1 ?k2 ?k3 ?k4 ?k5 ?kK ?kd ?ku ?_ ?_
    case k1 => k_asm
    case k2 => k_asm
    case k3 => k_asm
    case k4 => walk_at "fc pick"
    case k5 => k_asm
    case kK => first | exact rfl | assumption
    case kd => walk_at "fc room"
    case ku => walk_at "fc units"
    · rintro r news' h' tk' F' N' ⟨hle, t2, tp2, rfl, rfl⟩
      k_steps
      rename IntsAre _ (List.take _ _) => hws
      have eB : (bits.drop (p : Int).toNat).take (min ((p : Int) + (c : Int)).toNat bits.length - (p : Int).toNat) = (bits.drop p).take c := by
        rw [Int.toNat_natCast, show min ((p : Int) + (c : Int)).toNat bits.length - p = c by omega]
      rw [eB] at hws
      refine' spec_use (spec_number hws) ?k1 ?k2 ?k3 ?k4 ?k5 ?kK ?kd ?ku ?_
      case k1 => k_asm
      case k2 => k_asm
      case k3 => k_asm
      case k4 => walk_at "fc pick"
      case k5 => k_asm
      case kK => first | exact rfl | assumption
      case kd => walk_at "fc room"
      case ku => walk_at "fc units"
      rintro r news' h' tk' F' N' ⟨t3, rfl, rfl⟩
      k_steps
      · exfalso
        rename (num _ ≠ num _) => hne
        exact hne rfl
      · rename News _ L _ _ => kN
        rename Fr h₀ L _ m => kF
        rw [show (p : Int) + (c : Int) = ((p + c : Nat) : Int) by omega] at kN
        exact hret _ _ _ _ kF (cb_drop (news := (x, instObj 167 dx) :: (dx, rDict h1 h2 h3 k1 k2 k3 bs tb (bits.length : Int) tn ((p + c : Nat) : Int) tp2) :: (pl, listOf #[.ref l, .int ((p + c : Nat) : Int) _] cp) :: (l, listOf ys.toArray cl') :: news) kN (by walk_at "fc led")) ⟨rfl, p + c, _, _, _, by omega, rfl⟩
    · intro G e t' vs h' tk' news' FG S U hr
      obtain ⟨hlt, rfl⟩ := hr
      k_steps
      rename News _ L _ _ => kN
      rename Fr h₀ L _ m => kF
      rw [show decide ((bits.length : Int) - (p : Int) < (c : Int)) = true by rw [decide_eq_true_eq]; omega]
      exact hret _ _ _ _ kF kN ⟨rfl, p, _, _, _, by omega, rfl⟩
  · have hw := wd_range' ((n.fdiv 5).fmod 5).toNat
    obtain ⟨c, hcv⟩ : ∃ c : Nat, ([0, 1, 3, 19, 5] : List Int).getD ((n.fdiv 5).fmod 5).toNat 0 = (c : Int) := ⟨_, (Int.toNat_of_nonneg hw.1).symm⟩
    rw [hcv] at hw ⊢
    refine' specT_use (spec_readCoded (mean := mean) (mg := mg) (mb := mb) (h1 := h1) (h2 := h2) (h3 := h3) (k1 := k1) (k2 := k2) (k3 := k3) (tb := tb) (tn := tn) (tp := tp) (tq := tq) (cp := cp) (p := p) (c := c) (news := news) hxd hxp hxl hdp hdl hpl offd offp hbs hb hys h8 hz hp (by omega)) ?k1 ?k2 ?k3 ?k4 ?k5 ?kK ?kd ?ku ?xb ?tb ?dd ?t0 ?_
    case k1 => k_asm
    case k2 => k_asm
    case k3 => k_asm
    case k4 => walk_at "fc pick"
    case k5 => k_asm
    case kK => first | exact rfl | assumption
    case kd => walk_at "fc room"
    case ku => walk_at "fc units"
    case xb => assumption
    case tb => assumption
    case dd => assumption
    case t0 => first | assumption | exact KtsTurn.refl
    rintro r news' h' tk' g2 T2 F2 N2 B2 X2 P2 D2 ⟨rfl, p', tp', tq', cp', hp', rfl⟩
    k_steps
    rename News h₀ L _ _ => kN
    rename Fr h₀ L _ m => kF
    exact hret _ _ _ _ kF kN ⟨rfl, p', tp', tq', cp', hp', rfl⟩
  · skip
    refine' specT_use (spec_readEnd (mean := mean) (mg := mg) (mb := mb) (h1 := h1) (h2 := h2) (h3 := h3) (k1 := k1) (k2 := k2) (k3 := k3) (tb := tb) (tn := tn) (tp := tp) (tq := tq) (cp := cp) (p := p) (news := news) hxd hxp hxl hdp hdl hpl offd offp hbs hb hys h8 hz hp) ?k1 ?k2 ?k3 ?k4 ?k5 ?kK ?kd ?ku ?xb ?tb ?dd ?t0 ?_
    case k1 => k_asm
    case k2 => k_asm
    case k3 => k_asm
    case k4 => walk_at "fc pick"
    case k5 => k_asm
    case kK => first | exact rfl | assumption
    case kd => walk_at "fc room"
    case ku => walk_at "fc units"
    case xb => assumption
    case tb => assumption
    case dd => assumption
    case t0 => first | assumption | exact KtsTurn.refl
    rintro r news' h' tk' g2 T2 F2 N2 B2 X2 P2 D2 ⟨rfl, p', tp', tq', cp', hp', rfl⟩
    k_steps
    rename News h₀ L _ _ => kN
    rename Fr h₀ L _ m => kF
    exact hret _ _ _ _ kF kN ⟨rfl, p', tp', tq', cp', hp', rfl⟩
end
section
set_option maxRecDepth 100000
set_option maxHeartbeats 1500000
local macro_rules | `(tactic| walk_at "fc enter") => `(tactic| k_dflt (first
  | (refine' code_def ?k1 ?k2 ?k3 ?k4 ?k5 ?kA ?kF ?kK ?k6 ?k7 ?k8 ?k9 ?kB ?_ ?c2 ?c3 ?c4 ?c5; (case kA => exact rfl); (case kF => exact rfl); (case kK => first | exact rfl | assumption); (case k1 => k_asm); (case k2 => k_asm); (case k3 => k_asm); (case k4 => k_asm); (case k5 => k_asm); (case k6 => k_is); (case k7 => k_is); (case k8 => ktr_room); (case k9 => first | exact BindsTo.of_eq rfl | exact binds_K (by k_in) rfl (by k_is) rfl rfl rfl); (case c5 => decide); (case kB => exact locs rfl); (case c2 => exact rfl); (case c3 => exact rfl); (case c4 => exact rfl); k_whole; intro g' L' h' FG' F' N' B' X' T'; (try dsimp only); (try k_lift B'); (try k_fold))
  | (refine' code_defC ?k1 ?k2 ?k3 ?k4 ?k5 ?kA ?kF ?kK ?k6 ?k7 ?k8 ?k9 ?kB ?kD ?_ ?c2 ?c3 ?c4; (case kA => exact rfl); (case kF => exact rfl); (case kK => first | exact rfl | assumption); (case k1 => k_asm); (case k2 => k_asm); (case k3 => k_asm); (case k4 => k_asm); (case k5 => k_asm); (case k6 => k_is); (case k7 => k_is); (case k8 => ktr_room); (case k9 => first | exact BindsTo.of_eq rfl | exact binds_K (by k_in) rfl (by k_is) rfl rfl rfl); (case kB => exact rfl); (case kD => decide +kernel); (case c2 => exact rfl); (case c3 => exact rfl); (case c4 => exact rfl); k_whole; intro g' L' h' tk' cells' FG' F' N' Y' B' X' T' l1; (try k_lt l1); k_cells Y'; (try simp only [List.cons_append, List.nil_append] at N'); (try dsimp only); (try k_lift B'); (try k_fold))))
local macro_rules | `(tactic| walk_at "fc enterW") => `(tactic| k_dflt (
  (refine' code_defW ?k1 ?k2 ?k3 ?k4 ?k5 ?kA ?kF ?kK ?k6 ?k7 ?k8 ?k9 ?kB ?_ ?c2 ?c3 ?c4 ?c5; (case kA => exact rfl); (case kF => exact rfl); (case kK => first | exact rfl | assumption); (case k1 => k_asm); (case k2 => k_asm); (case k3 => k_asm); (case k4 => k_asm); (case k5 => k_asm); (case k6 => k_is); (case k7 => k_is); (case k8 => ktr_room); (case k9 => first | exact BindsTo.of_eq rfl | exact binds_K (by k_in) rfl (by k_is) rfl rfl rfl); (case c5 => decide); (case kB => exact locs rfl); (case c2 => exact rfl); (case c3 => exact rfl); (case c4 => exact rfl); k_whole; intro g' L' h' tk' FG' F' N' B' X' T' l1; (try k_lt l1); (try dsimp only); (try k_lift B'))))
local macro_rules | `(tactic| k_all) => `(tactic| exact off_of_lt (by with_reducible assumption))
local macro_rules | `(tactic| k_all) => `(tactic| with_reducible assumption)
local macro_rules | `(tactic| walk_at "fc sub") => `(tactic| (intro p9 h9; simp only [List.mem_cons, List.mem_append] at h9 ⊢; grind))
local macro_rules | `(tactic| walk_at "fc led") => `(tactic| first
  | exact List.forall_mem_nil _
  | (refine' List.forall_mem_cons.mpr ⟨?fa, ?fb⟩; (case fa => k_mem); (case fb => walk_at "fc led"))
  | (intro p9 h9; repeat (first | exact h9 | refine List.Mem.tail _ ?_)))
local macro_rules | `(tactic| walk_at "exec While") => `(tactic| (rename ParkWhile => z9; clear z9; refine Parked.go ?_))
local macro_rules | `(tactic| walk_at "exec Try") => `(tactic| (rename ParkTry => z9; clear z9; refine Parked.go ?_))
local macro_rules | `(tactic| walk_at "exec For") => `(tactic| (rename ParkFor => z9; clear z9; refine Parked.go ?_))
local macro_rules | `(tactic| walk_at "exec For Name Call") => `(tactic| (rename ParkFor => z9; clear z9; refine Parked.go ?_))
local macro_rules | `(tactic| walk_at "exec For Name Call cons nil") => `(tactic| (rename ParkFor => z9; clear z9; refine Parked.go ?_))
local macro_rules | `(tactic| walk_at "exec For Name Name") => `(tactic| (rename ParkFor => z9; clear z9; refine Parked.go ?_))
local macro_rules | `(tactic| walk_at "exec For Name Name cons nil") => `(tactic| (rename ParkFor => z9; clear z9; refine Parked.go ?_))
local macro_rules | `(tactic| walk_at "exec For Name List cons nil") => `(tactic| (rename ParkFor => z9; clear z9; refine Parked.go ?_))
local macro_rules | `(tactic| walk_at "fc pick") => `(tactic| first | k_asm | (rename News _ _ _ _ => z9; exact cb_drop z9 (by walk_at "fc led")))
local macro_rules | `(tactic| walk_at "fc room") => `(tactic| first | omega | ((try simp only [depth_under_make, depth_under_kw, depth_in1, depth_deeper, depth_caller]); (try dsimp only [ktrTop]); omega) | ktr_room)
local macro_rules | `(tactic| walk_at "fc units") => `(tactic| first | omega | (have hcL9 := cLine_is; (try simp only [units_in1, units_deeper, Around.mark_units, units_caller]); (try dsimp only [ktrTop]); omega) | ktr_units)

local macro_rules | `(tactic| walk_at "exec Raise some none") => `(tactic| (k_here; (with_reducible show wpAny _ _ (exec (Stmt.Raise (some (Expr.Call (Expr.Name _ _) (_ :: _) [] _)) none _) _) _ _ _); k_dflt (refine' raise2 ?F ?g ?O ?h ?_ ?a ?b ?c ?d ?e; (case F => k_asm); (case g => exact TopRead.g (by k_asm)); (case O => exact own_of_in (by k_asm) (by k_asm) (by k_is) (by k_exc)); (case h => first | rfl | assumption); (case a => rfl); (case b => rfl); (case c => rfl); (case d => rfl); (case e => decide); k_whole)))
local macro_rules | `(tactic| walk_at "leaving ref") => `(tactic| (k_here; (refine' leave_raiseS ?k1 ?k0 ?k2 ?k3 ?_; (case k0 => assumption); (case k2 => assumption); (case k1 => assumption); (case k3 => k_asm); k_whole; intro h' t' S' R' U'; (try dsimp only at S' R' U' ⊢))))
local macro_rules | `(tactic| walk_at "callWith ref") => `(tactic| (k_here; (with_reducible show wpAny _ _ (callWith _ (Value.ref _) _ (backTo _ (starEach (_ :: _) _)) (backToKw _ (keywordEach (_ :: _) _))) _ _ _); kfb_any; k_dflt (refine' callWithKw ?kfbN ?kfbM ?kfbA ?_; (case kfbN => k_asm); (case kfbM => k_mem); (case kfbA => exact rfl); k_whole)))
local macro_rules | `(tactic| walk_at "call ref") => `(tactic| (k_here; (with_reducible show wpAny _ _ (call (Value.ref _) [Value.bytes _ _] (_ :: _)) _ _ _); kfb_any; k_dflt (first
  | (refine callBig (by k_asm) (by k_mem) (by kba_ints2) (by kba_size) ?_)
  | (refine callLittle (by k_asm) (by k_mem) (by kba_ints2) (by kba_size) ?_)); intro _ _))
local macro_rules | `(tactic| walk_at "subscriptTail") => `(tactic| (k_here; (with_reducible show wpAny _ _ (subscriptTail _ (PySem.Expr.Slice none none (some _) _) (Value.bytes _ _) (Value.ref _)) _ _ _); (with_reducible rename Fr _ _ _ _ => F'); (with_reducible rename News _ _ _ _ => N'); (refine rev_K (s := ⟨_, _, _, _, _⟩) F' N' (by kba_ints) (by kba_size) ?_); intro _ _ _ _ _ kbcK))

theorem frame3 {a b c : Str} {m' m₀ : Str → Option Value} {vb vc : Option Value} (hb : m' b = vb) (hc : m' c = vc) (h : ∀ n, n ≠ a → n ≠ b → n ≠ c → m' n = m₀ n) :
    m' = fun n => if n = a then m' a else if n = b then vb else if n = c then vc else m₀ n := by
  funext n
  by_cases h1 : n = a
  · subst h1; rw [if_pos rfl]
  rw [if_neg h1]
  by_cases h2 : n = b
  · subst h2; rw [if_pos rfl]; exact hb
  rw [if_neg h2]
  by_cases h3 : n = c
  · subst h3; rw [if_pos rfl]; exact hc
  rw [if_neg h3]
  exact h n h1 h2 h3
/-- the two numbers of a block's hash -/
def keyA (ks : List Int) : Int := PySem.W.KFB.value ((ks.reverse).take 8).reverse
def keyB (ks : List Int) : Int := PySem.W.KFB.value ((ks.reverse.drop 8).take (16 - 8)).reverse
abbrev tup2 (a : Int) (t : Tok) (b : Int) (u : Tok) : Obj := { cls := .type "tuple", data := .seq #[.int a t, .int b u] }
theorem spec_keyFrom {w : World} {mean : ExcName → Option Value} {mg mb : Str → Option Value} {news : List (Addr × Obj)} {bs : Array UInt8} {ks : List Int} {tb : Tok} (hk : KBw.bInts bs = ks) (hz : ks.length = 32) :
    Spec w mean mg mb 192 [.bytes bs tb] news 20 200 (fun r news' => ∃ D t8 t9, r = .ref D ∧ (∀ p ∈ news, p.1 < D) ∧ news' = (D, tup2 (keyA ks) t9 (keyB ks) t8) :: news) := by
  have hzr : ks.reverse.length = 32 := by rw [List.length_reverse]; exact hz
  unfold Spec
  k_fill
  intro dp un gd cn cs a ccd cl outer A₀ base h₀ L m s Q E B F X N T hk hd hu hret
  refine wpAny_call ?_
  walk_at "fc enter"
  k_steps
  rename (KBw.bInts _ = List.take _ _) => hK
  rw [hzr, show clipAt 32 8 = 8 by decide] at hK
  refine callLittle (by k_asm) (by k_mem) hK (by rw [List.length_take, hzr]; decide) fun t9 k9 => ?_
  k_steps
  rename (KBw.bInts _ = List.take _ (List.drop _ _)) => hK2
  rw [hzr, show clipAt 32 8 = 8 by decide, show clipAt 32 16 = 16 by decide] at hK2
  refine callLittle (by k_asm) (by k_mem) hK2 (by rw [List.length_take, List.length_drop, hzr]; decide) fun t8 k8 => ?_
  k_steps
  rename (_ ∧ _ ∧ AllLt _ news) => hl9
  rename News h₀ L _ _ => kN
  rename Fr h₀ L _ m => kF
  exact hret _ _ _ _ kF (cb_drop (news := (_, tup2 (keyA ks) t9 (keyB ks) t8) :: news) kN (by walk_at "fc led")) ⟨_, t8, t9, rfl, ktn_ltOf hl9.2.2, rfl⟩
end
section
local macro_rules | `(tactic| walk_at "fc nil") => `(tactic| fail "none")
set_option maxRecDepth 100000
set_option maxHeartbeats 1500000
local macro_rules | `(tactic| walk_at "fc enter") => `(tactic| k_dflt (first
  | (refine' code_def ?k1 ?k2 ?k3 ?k4 ?k5 ?kA ?kF ?kK ?k6 ?k7 ?k8 ?k9 ?kB ?_ ?c2 ?c3 ?c4 ?c5; (case kA => exact rfl); (case kF => exact rfl); (case kK => first | exact rfl | assumption); (case k1 => k_asm); (case k2 => k_asm); (case k3 => k_asm); (case k4 => k_asm); (case k5 => k_asm); (case k6 => k_is); (case k7 => k_is); (case k8 => ktr_room); (case k9 => first | exact BindsTo.of_eq rfl | exact binds_K (by k_in) rfl (by k_is) rfl rfl rfl); (case c5 => decide); (case kB => exact locs rfl); (case c2 => exact rfl); (case c3 => exact rfl); (case c4 => exact rfl); k_whole; intro g' L' h' FG' F' N' B' X' T'; (try dsimp only); (try k_lift B'); (try k_fold))
  | (refine' code_defC ?k1 ?k2 ?k3 ?k4 ?k5 ?kA ?kF ?kK ?k6 ?k7 ?k8 ?k9 ?kB ?kD ?_ ?c2 ?c3 ?c4; (case kA => exact rfl); (case kF => exact rfl); (case kK => first | exact rfl | assumption); (case k1 => k_asm); (case k2 => k_asm); (case k3 => k_asm); (case k4 => k_asm); (case k5 => k_asm); (case k6 => k_is); (case k7 => k_is); (case k8 => ktr_room); (case k9 => first | exact BindsTo.of_eq rfl | exact binds_K (by k_in) rfl (by k_is) rfl rfl rfl); (case kB => exact rfl); (case kD => decide +kernel); (case c2 => exact rfl); (case c3 => exact rfl); (case c4 => exact rfl); k_whole; intro g' L' h' tk' cells' FG' F' N' Y' B' X' T' l1; (try k_lt l1); k_cells Y'; (try simp only [List.cons_append, List.nil_append] at N'); (try dsimp only); (try k_lift B'); (try k_fold))))
local macro_rules | `(tactic| walk_at "fc enterW") => `(tactic| k_dflt (
  (refine' code_defW ?k1 ?k2 ?k3 ?k4 ?k5 ?kA ?kF ?kK ?k6 ?k7 ?k8 ?k9 ?kB ?_ ?c2 ?c3 ?c4 ?c5; (case kA => exact rfl); (case kF => exact rfl); (case kK => first | exact rfl | assumption); (case k1 => k_asm); (case k2 => k_asm); (case k3 => k_asm); (case k4 => k_asm); (case k5 => k_asm); (case k6 => k_is); (case k7 => k_is); (case k8 => ktr_room); (case k9 => first | exact BindsTo.of_eq rfl | exact binds_K (by k_in) rfl (by k_is) rfl rfl rfl); (case c5 => decide); (case kB => exact locs rfl); (case c2 => exact rfl); (case c3 => exact rfl); (case c4 => exact rfl); k_whole; intro g' L' h' tk' FG' F' N' B' X' T' l1; (try k_lt l1); (try dsimp only); (try k_lift B'))))
local macro_rules | `(tactic| k_all) => `(tactic| exact off_of_lt (by with_reducible assumption))
local macro_rules | `(tactic| k_all) => `(tactic| with_reducible assumption)
local macro_rules | `(tactic| walk_at "fc sub") => `(tactic| (intro p9 h9; simp only [List.mem_cons, List.mem_append] at h9 ⊢; grind))
local macro_rules | `(tactic| walk_at "fc led") => `(tactic| first
  | exact List.forall_mem_nil _
  | (refine' List.forall_mem_cons.mpr ⟨?fa, ?fb⟩; (case fa => k_mem); (case fb => walk_at "fc led"))
  | (intro p9 h9; repeat (first | exact h9 | refine List.Mem.tail _ ?_)))
local macro_rules | `(tactic| walk_at "exec While") => `(tactic| (rename ParkWhile => z9; clear z9; refine Parked.go ?_))
local macro_rules | `(tactic| walk_at "exec Try") => `(tactic| (rename ParkTry => z9; clear z9; refine Parked.go ?_))
local macro_rules | `(tactic| walk_at "exec For") => `(tactic| (rename ParkFor => z9; clear z9; refine Parked.go ?_))
local macro_rules | `(tactic| walk_at "exec For Name Call") => `(tactic| (rename ParkFor => z9; clear z9; refine Parked.go ?_))
local macro_rules | `(tactic| walk_at "exec For Name Call cons nil") => `(tactic| (rename ParkFor => z9; clear z9; refine Parked.go ?_))
local macro_rules | `(tactic| walk_at "exec For Name Name") => `(tactic| (rename ParkFor => z9; clear z9; refine Parked.go ?_))
local macro_rules | `(tactic| walk_at "exec For Name Name cons nil") => `(tactic| (rename ParkFor => z9; clear z9; refine Parked.go ?_))
local macro_rules | `(tactic| walk_at "exec For Name List cons nil") => `(tactic| (rename ParkFor => z9; clear z9; refine Parked.go ?_))
local macro_rules | `(tactic| walk_at "fc pick") => `(tactic| first | k_asm | (rename News _ _ _ _ => z9; exact cb_drop z9 (by walk_at "fc led")))
local macro_rules | `(tactic| walk_at "fc room") => `(tactic| first | omega | ((try simp only [depth_under_make, depth_under_kw, depth_in1, depth_deeper, depth_caller]); (try dsimp only [ktrTop]); omega) | ktr_room)
local macro_rules | `(tactic| walk_at "fc units") => `(tactic| first | omega | (have hcL9 := cLine_is; (try simp only [units_in1, units_deeper, Around.mark_units, units_caller]); (try dsimp only [ktrTop]); omega) | ktr_units)

local macro_rules | `(tactic| walk_at "exec Raise some none") => `(tactic| (k_here; (with_reducible show wpAny _ _ (exec (Stmt.Raise (some (Expr.Call (Expr.Name _ _) (_ :: _) [] _)) none _) _) _ _ _); k_dflt (refine' raise2 ?F ?g ?O ?h ?_ ?a ?b ?c ?d ?e; (case F => k_asm); (case g => exact TopRead.g (by k_asm)); (case O => exact own_of_in (by k_asm) (by k_asm) (by k_is) (by k_exc)); (case h => first | rfl | assumption); (case a => rfl); (case b => rfl); (case c => rfl); (case d => rfl); (case e => decide); k_whole)))
local macro_rules | `(tactic| walk_at "leaving ref") => `(tactic| (k_here; (refine' leave_raiseS ?k1 ?k0 ?k2 ?k3 ?_; (case k0 => assumption); (case k2 => assumption); (case k1 => assumption); (case k3 => k_asm); k_whole; intro h' t' S' R' U'; (try dsimp only at S' R' U' ⊢))))
local macro_rules | `(tactic| walk_at "callWith ref") => `(tactic| (k_here; (with_reducible show wpAny _ _ (callWith _ (Value.ref _) _ (backTo _ (starEach (_ :: _) _)) (backToKw _ (keywordEach (_ :: _) _))) _ _ _); kfb_any; k_dflt (refine' callWithKw ?kfbN ?kfbM ?kfbA ?_; (case kfbN => k_asm); (case kfbM => k_mem); (case kfbA => exact rfl); k_whole)))
local macro_rules | `(tactic| walk_at "call ref") => `(tactic| (k_here; (with_reducible show wpAny _ _ (call (Value.ref _) [Value.bytes _ _] (_ :: _)) _ _ _); kfb_any; k_dflt (first
  | (refine callBig (by k_asm) (by k_mem) (by kba_ints2) (by kba_size) ?_)
  | (refine callLittle (by k_asm) (by k_mem) (by kba_ints2) (by kba_size) ?_)); intro _ _))
local macro_rules | `(tactic| walk_at "subscriptTail") => `(tactic| (k_here; (with_reducible show wpAny _ _ (subscriptTail _ (PySem.Expr.Slice none none (some _) _) (Value.bytes _ _) (Value.ref _)) _ _ _); (with_reducible rename Fr _ _ _ _ => F'); (with_reducible rename News _ _ _ _ => N'); (refine rev_K (s := ⟨_, _, _, _, _⟩) F' N' (by kba_ints) (by kba_size) ?_); intro _ _ _ _ _ kbcK))

def partA (ks : List Int) : Nat → Int
  | 0 => 0
  | j + 1 => partA ks j + ks.getD (31 - j) 0 * 256 ^ j
def partB (ks : List Int) : Nat → Int
  | 0 => 0
  | j + 1 => partB ks j + ks.getD (23 - j) 0 * 256 ^ j
theorem value_cons (k : Int) (r : List Int) : PySem.W.KFB.value (k :: r) = k * 256 ^ r.length + PySem.W.KFB.value r := by
  have key : ∀ (r : List Int) (a : Int), r.foldl (fun a k => a * 256 + k) a = a * 256 ^ r.length + PySem.W.KFB.value r := by
    intro r
    induction r with
    | nil => intro a; simp [PySem.W.KFB.value]
    | cons b r ih =>
      intro a
      unfold PySem.W.KFB.value
      rw [List.foldl_cons, List.foldl_cons, ih, ih (0 * 256 + b), List.length_cons, Int.pow_succ, Int.add_mul, Int.zero_mul, Int.zero_add, Int.mul_assoc, Int.mul_comm 256]
      omega
  unfold PySem.W.KFB.value
  rw [List.foldl_cons, key, Int.zero_mul, Int.zero_add]; rfl
theorem partA_eq {ks : List Int} (h : ks.length = 32) : ∀ j, j ≤ 8 → PySem.W.KFB.value (ks.drop (32 - j)) = partA ks j
  | 0, _ => by rw [List.drop_of_length_le (by omega)]; rfl
  | j + 1, hj => by
    have ih := partA_eq h j (by omega)
    rw [List.drop_eq_getElem_cons (show 32 - (j + 1) < ks.length by omega), show 32 - (j + 1) + 1 = 32 - j by omega, value_cons, ih, show (ks.drop (32 - j)).length = j by rw [List.length_drop]; omega]
    show _ = partA ks j + ks.getD (31 - j) 0 * 256 ^ j
    rw [List.getD_eq_getElem?_getD, List.getElem?_eq_getElem (by omega), Int.add_comm]
    congr 2
    simp only [Option.getD_some]
    congr 1
    omega
theorem partB_eq {ks : List Int} (h : ks.length = 32) : ∀ j, j ≤ 8 → PySem.W.KFB.value ((ks.drop (24 - j)).take j) = partB ks j
  | 0, _ => rfl
  | j + 1, hj => by
    have ih := partB_eq h j (by omega)
    rw [List.drop_eq_getElem_cons (show 24 - (j + 1) < ks.length by omega), show 24 - (j + 1) + 1 = 24 - j by omega, List.take_succ_cons, value_cons, ih, show ((ks.drop (24 - j)).take j).length = j by rw [List.length_take, List.length_drop]; omega]
    show _ = partB ks j + ks.getD (23 - j) 0 * 256 ^ j
    rw [List.getD_eq_getElem?_getD, List.getElem?_eq_getElem (by omega), Int.add_comm]
    congr 2
    simp only [Option.getD_some]
    congr 1
    omega
theorem keyA_eq {ks : List Int} (h : ks.length = 32) : keyA ks = partA ks 8 := by
  rw [← partA_eq h 8 (by omega)]
  unfold keyA
  congr 1
  rw [List.take_reverse, List.reverse_reverse, h]
theorem keyB_eq {ks : List Int} (h : ks.length = 32) : keyB ks = partB ks 8 := by
  rw [← partB_eq h 8 (by omega)]
  unfold keyB
  congr 1
  rw [List.drop_reverse, List.take_reverse, List.reverse_reverse, List.length_take, h, List.drop_take]
  rfl
theorem spec_keyParts {w : World} {mean : ExcName → Option Value} {mg mb : Str → Option Value} {news : List (Addr × Obj)} {bs : Array UInt8} {ks : List Int} {tb : Tok} (hk : KBw.bInts bs = ks) (hz : ks.length = 32) :
    Spec w mean mg mb 267 [.bytes bs tb] news 20 200 (fun r news' => ∃ D t8 t9, r = .ref D ∧ (∀ p ∈ news, p.1 < D) ∧ news' = (D, tup2 (keyA ks) t9 (keyB ks) t8) :: news) := by
  unfold Spec
  k_fill
  intro dp un gd cn cs a ccd cl outer A₀ base h₀ L m s Q E B F X N T hk hd hu hret
  refine wpAny_call ?_
  walk_at "fc enter"
  have parkF : ParkFor := trivial
  k_steps
  refine exec_forA ?_
  k_steps
  refine' forRangeN (K := allK) (n := 8) (J := fun m₁ n₁ j m' news' => (∃ u t0 t1, m' = fun y => if y = Str.ofString "j" then u else if y = Str.ofString "first" then some (.int (partA ks j) t0) else if y = Str.ofString "second" then some (.int (partB ks j) t1) else m₁ y) ∧ news' = n₁) ?xhh ?xhK ?xhKb ?xhk ?xhx ?xhr ?xF ?xN ?xhsm ?xhn ?xh0 ?xsep ?xturn ?xdone
  case xhh => exact rfl
  case xhK => exact fun _ => rfl
  case xhKb => exact rfl
  case xhk => exact rfl
  case xhx => exact rfl
  case xhr => assumption
  case xF => k_asm
  case xN => k_asm
  case xhsm => decide
  case xhn => decide
  case xh0 => exact ⟨⟨_, _, _, frame3 rfl rfl (fun n e1 e2 e3 => rfl)⟩, rfl⟩
  case xsep =>
    rintro J i m' news' hJ _ ⟨_, rfl⟩ p hp
    exact Nat.ne_of_lt (hJ p hp)
  case xturn =>
    intro J hJ j tk9 o9 m' news' h9 tk8 hj hJ9 F1 N1
    obtain ⟨⟨u, w0, w1, rfl⟩, rfl⟩ := hJ9
    refine wpS_of ?_
    k_steps
    rename Fr _ _ _ _ => F9
    rename News _ _ _ _ => N9
    have a1 : partA ks j + ks.getD (31 - (0 + (j : Int) * 1)).toNat 0 * 256 ^ (0 + (j : Int) * 1).toNat = partA ks (j + 1) := by
      rw [show (31 - (0 + (j : Int) * 1)).toNat = 31 - j by omega, show (0 + (j : Int) * 1).toNat = j by omega]; rfl
    have a2 : partB ks j + ks.getD (23 - (0 + (j : Int) * 1)).toNat 0 * 256 ^ (0 + (j : Int) * 1).toNat = partB ks (j + 1) := by
      rw [show (23 - (0 + (j : Int) * 1)).toNat = 23 - j by omega, show (0 + (j : Int) * 1).toNat = j by omega]; rfl
    exact TurnEnd.same F9 N9 ⟨⟨_, _, _, frame3 (congrArg (fun z => some (Value.int z _)) a1) (congrArg (fun z => some (Value.int z _)) a2) (fun n e1 e2 e3 => by simp only [e1, e2, e3, if_false])⟩, rfl⟩
  case xdone =>
    intro m' news9 h9 tk9 hJ F1 N1
    obtain ⟨⟨u, w0, w1, rfl⟩, rfl⟩ := hJ
    dsimp only
    k_steps
    rename (∀ p ∈ news9, p.1 < _) => hl9
    rename News h₀ L _ _ => kN
    rename Fr h₀ L _ m => kF
    rw [keyA_eq hz, keyB_eq hz] at hret
    exact hret _ _ _ _ kF kN ⟨_, _, _, rfl, hl9, rfl⟩
end
section
set_option maxRecDepth 100000
set_option maxHeartbeats 8000000
local macro_rules | `(tactic| walk_at "fc enter") => `(tactic| k_dflt (first
  | (refine' code_def ?k1 ?k2 ?k3 ?k4 ?k5 ?kA ?kF ?kK ?k6 ?k7 ?k8 ?k9 ?kB ?_ ?c2 ?c3 ?c4 ?c5; (case kA => exact rfl); (case kF => exact rfl); (case kK => first | exact rfl | assumption); (case k1 => k_asm); (case k2 => k_asm); (case k3 => k_asm); (case k4 => k_asm); (case k5 => k_asm); (case k6 => k_is); (case k7 => k_is); (case k8 => ktr_room); (case k9 => first | exact BindsTo.of_eq rfl | exact binds_K (by k_in) rfl (by k_is) rfl rfl rfl); (case c5 => decide); (case kB => exact locs rfl); (case c2 => exact rfl); (case c3 => exact rfl); (case c4 => exact rfl); k_whole; intro g' L' h' FG' F' N' B' X' T'; (try dsimp only); (try k_lift B'); (try k_fold))
  | (refine' code_defC ?k1 ?k2 ?k3 ?k4 ?k5 ?kA ?kF ?kK ?k6 ?k7 ?k8 ?k9 ?kB ?kD ?_ ?c2 ?c3 ?c4; (case kA => exact rfl); (case kF => exact rfl); (case kK => first | exact rfl | assumption); (case k1 => k_asm); (case k2 => k_asm); (case k3 => k_asm); (case k4 => k_asm); (case k5 => k_asm); (case k6 => k_is); (case k7 => k_is); (case k8 => ktr_room); (case k9 => first | exact BindsTo.of_eq rfl | exact binds_K (by k_in) rfl (by k_is) rfl rfl rfl); (case kB => exact rfl); (case kD => decide +kernel); (case c2 => exact rfl); (case c3 => exact rfl); (case c4 => exact rfl); k_whole; intro g' L' h' tk' cells' FG' F' N' Y' B' X' T' l1; (try k_lt l1); k_cells Y'; (try simp only [List.cons_append, List.nil_append] at N'); (try dsimp only); (try k_lift B'); (try k_fold))))
local macro_rules | `(tactic| walk_at "fc enterW") => `(tactic| k_dflt (
  (refine' code_defW ?k1 ?k2 ?k3 ?k4 ?k5 ?kA ?kF ?kK ?k6 ?k7 ?k8 ?k9 ?kB ?_ ?c2 ?c3 ?c4 ?c5; (case kA => exact rfl); (case kF => exact rfl); (case kK => first | exact rfl | assumption); (case k1 => k_asm); (case k2 => k_asm); (case k3 => k_asm); (case k4 => k_asm); (case k5 => k_asm); (case k6 => k_is); (case k7 => k_is); (case k8 => ktr_room); (case k9 => first | exact BindsTo.of_eq rfl | exact binds_K (by k_in) rfl (by k_is) rfl rfl rfl); (case c5 => decide); (case kB => exact locs rfl); (case c2 => exact rfl); (case c3 => exact rfl); (case c4 => exact rfl); k_whole; intro g' L' h' tk' FG' F' N' B' X' T' l1; (try k_lt l1); (try dsimp only); (try k_lift B'))))
local macro_rules | `(tactic| k_all) => `(tactic| exact off_of_lt (by with_reducible assumption))
local macro_rules | `(tactic| k_all) => `(tactic| with_reducible assumption)
local macro_rules | `(tactic| walk_at "fc sub") => `(tactic| (intro p9 h9; simp only [List.mem_cons, List.mem_append] at h9 ⊢; grind))
local macro_rules | `(tactic| walk_at "fc led") => `(tactic| first
  | exact List.forall_mem_nil _
  | (refine' List.forall_mem_cons.mpr ⟨?fa, ?fb⟩; (case fa => k_mem); (case fb => walk_at "fc led"))
  | (intro p9 h9; repeat (first | exact h9 | refine List.Mem.tail _ ?_)))
local macro_rules | `(tactic| walk_at "exec While") => `(tactic| (rename ParkWhile => z9; clear z9; refine Parked.go ?_))
local macro_rules | `(tactic| walk_at "exec Try") => `(tactic| (rename ParkTry => z9; clear z9; refine Parked.go ?_))
local macro_rules | `(tactic| walk_at "exec For") => `(tactic| (rename ParkFor => z9; clear z9; refine Parked.go ?_))
local macro_rules | `(tactic| walk_at "exec For Name Call") => `(tactic| (rename ParkFor => z9; clear z9; refine Parked.go ?_))
local macro_rules | `(tactic| walk_at "exec For Name Call cons nil") => `(tactic| (rename ParkFor => z9; clear z9; refine Parked.go ?_))
local macro_rules | `(tactic| walk_at "exec For Name Name") => `(tactic| (rename ParkFor => z9; clear z9; refine Parked.go ?_))
local macro_rules | `(tactic| walk_at "exec For Name Name cons nil") => `(tactic| (rename ParkFor => z9; clear z9; refine Parked.go ?_))
local macro_rules | `(tactic| walk_at "exec For Name List cons nil") => `(tactic| (rename ParkFor => z9; clear z9; refine Parked.go ?_))
local macro_rules | `(tactic| walk_at "fc pick") => `(tactic| first | k_asm | (rename News _ _ _ _ => z9; exact cb_drop z9 (by walk_at "fc led")))
local macro_rules | `(tactic| walk_at "fc room") => `(tactic| first | omega | ((try simp only [depth_under_make, depth_under_kw, depth_in1, depth_deeper, depth_caller]); (try dsimp only [ktrTop]); omega) | ktr_room)
local macro_rules | `(tactic| walk_at "fc units") => `(tactic| first | omega | (have hcL9 := cLine_is; (try simp only [units_in1, units_deeper, Around.mark_units, units_caller]); (try dsimp only [ktrTop]); omega) | ktr_units)

def rotl (n b : Int) : Int := Builtin.bitAnd (Builtin.bitOr (n * 2 ^ b.toNat) (n.fdiv (2 ^ (64 - b).toNat))) 18446744073709551615
theorem rotl_range (n b : Int) : R64 (rotl n b) := and_mask _
theorem spec_rotl {w : World} {mean : ExcName → Option Value} {mg mb : Str → Option Value} {news : List (Addr × Obj)} {n b : Int} {t u : Tok} (h0 : 0 ≤ b) (h1 : b < 64) (hn : R64 n) :
    Spec w mean mg mb 87 [.int n t, .int b u] news 10 100 (fun r news' => news = news' ∧ ∃ t', r = .int (rotl n b) t') := by
  obtain ⟨h2, h3⟩ := hn
  unfold Spec
  k_fill
  intro dp un gd cn cs a ccd cl outer A₀ base h₀ L m s Q E B F X N T hk hd hu hret
  refine wpAny_call ?_
  walk_at "fc enter"
  k_steps
  rename News h₀ L _ _ => kN
  rename Fr h₀ L _ m => kF
  exact hret _ _ _ _ kF kN ⟨rfl, _, rfl⟩
local macro_rules | `(tactic| walk_at "fc r64") => `(tactic| first | assumption | exact and_mask _ | exact rotl_range _ _ | (refine xor_range ?_ ?_ <;> walk_at "fc r64") | (refine or_range ?_ ?_ <;> walk_at "fc r64"))
local macro_rules | `(tactic| walk_at "call ref") => `(tactic| ((with_reducible show wpAny _ _ (call (Value.ref 87) [Value.int _ _, Value.int _ _]) _ _ _); refine' spec_use (spec_rotl ?h0 ?h1 ?h2) ?k1 ?k2 ?k3 ?k4 ?k5 ?kK ?kd ?ku ?_; (case h0 => decide); (case h1 => decide); (case h2 => walk_at "fc r64"); (case k1 => k_asm); (case k2 => k_asm); (case k3 => k_asm); (case k4 => walk_at "fc pick"); (case k5 => k_asm); (case kK => first | exact rfl | assumption); (case kd => walk_at "fc room"); (case ku => walk_at "fc units"); intro r9 n9 h9 tk9 F' N' e9; obtain ⟨e8, t9, e7⟩ := e9; subst e8; subst e7; try dsimp only))
structure S4 where
  a : Int
  b : Int
  c : Int
  d : Int
abbrev M64 : Int := 18446744073709551615
namespace Sip
def a1 (s : S4) : Int := Builtin.bitAnd (s.a + s.b) M64
def b1 (s : S4) : Int := Builtin.bitXor (rotl s.b 13) (a1 s)
def c1 (s : S4) : Int := Builtin.bitAnd (s.c + s.d) M64
def d1 (s : S4) : Int := Builtin.bitXor (rotl s.d 16) (c1 s)
def a2 (s : S4) : Int := Builtin.bitAnd (rotl (a1 s) 32 + d1 s) M64
def d2 (s : S4) : Int := Builtin.bitXor (rotl (d1 s) 21) (a2 s)
def c2 (s : S4) : Int := Builtin.bitAnd (c1 s + b1 s) M64
def b2 (s : S4) : Int := Builtin.bitXor (rotl (b1 s) 17) (c2 s)
end Sip
/-- one round -/
def sipRound (s : S4) : S4 := ⟨Sip.a2 s, Sip.b2 s, rotl (Sip.c2 s) 32, Sip.d2 s⟩
def S4.ok (s : S4) : Prop := R64 s.a ∧ R64 s.b ∧ R64 s.c ∧ R64 s.d
theorem sipRound_ok (s : S4) : (sipRound s).ok :=
  have hc1 : R64 (Sip.c1 s) := and_mask _
  have ha1 : R64 (Sip.a1 s) := and_mask _
  have hd1 : R64 (Sip.d1 s) := xor_range (rotl_range _ _) hc1
  have ha2 : R64 (Sip.a2 s) := and_mask _
  have hc2 : R64 (Sip.c2 s) := and_mask _
  ⟨ha2, xor_range (rotl_range _ _) hc2, rotl_range _ _, xor_range (rotl_range _ _) ha2⟩
abbrev tup4 (s : S4) (t0 t1 t2 t3 : Tok) : Obj := { cls := .type "tuple", data := .seq [.int s.a t0, .int s.b t1, .int s.c t2, .int s.d t3].toArray }
theorem spec_round {w : World} {mean : ExcName → Option Value} {mg mb : Str → Option Value} {news : List (Addr × Obj)} {v0 v1 v2 v3 : Int} {t0 t1 t2 t3 : Tok} (h0 : R64 v0) (h1 : R64 v1) (h2 : R64 v2) (h3 : R64 v3) :
    Spec w mean mg mb 94 [.int v0 t0, .int v1 t1, .int v2 t2, .int v3 t3] news 20 200 (fun r news' => ∃ D t0 t1 t2 t3, r = .ref D ∧ (∀ p ∈ news, p.1 < D) ∧ news' = (D, tup4 (sipRound ⟨v0, v1, v2, v3⟩) t0 t1 t2 t3) :: news) := by
  unfold Spec
  k_fill
  intro dp un gd cn cs a ccd cl outer A₀ base h₀ L m s Q E B F X N T hk hd hu hret
  refine wpAny_call ?_
  walk_at "fc enter"
  k_steps
  rename News h₀ L _ _ => kN
  rename Fr h₀ L _ m => kF
  rename (∀ p ∈ news, p.1 < _) => hl9
  exact hret _ _ _ _ kF kN ⟨_, _, _, _, _, rfl, hl9, rfl⟩
theorem spec_round2 {w : World} {mean : ExcName → Option Value} {mg mb : Str → Option Value} {news : List (Addr × Obj)} {v0 v1 v2 v3 : Int} {t0 t1 t2 t3 : Tok} (h0 : R64 v0) (h1 : R64 v1) (h2 : R64 v2) (h3 : R64 v3) :
    Spec w mean mg mb 94 [.int v0 t0, .int v1 t1, .int v2 t2, .int v3 t3] news 20 200 (fun r news' => ∃ D t0 t1 t2 t3 q, q = sipRound ⟨v0, v1, v2, v3⟩ ∧ (R64 q.a ∧ R64 q.b ∧ R64 q.c ∧ R64 q.d) ∧ r = .ref D ∧ (∀ p ∈ news, p.1 < D) ∧ news' = (D, tup4 q t0 t1 t2 t3) :: news) :=
  (spec_round h0 h1 h2 h3).mono fun r n ⟨D, t0, t1, t2, t3, e1, l, e2⟩ => ⟨D, t0, t1, t2, t3, _, rfl, sipRound_ok _, e1, l, e2⟩
theorem r64_255 : R64 255 := ⟨by decide, by decide⟩
theorem r64_0 : R64 0 := ⟨by decide, by decide⟩
theorem frame5 {a b c d e : Str} {m' m₀ : Str → Option Value} {vb vc vd ve : Option Value} (hb : m' b = vb) (hc : m' c = vc) (hd : m' d = vd) (he : m' e = ve)
    (h : ∀ n, n ≠ a → n ≠ b → n ≠ c → n ≠ d → n ≠ e → m' n = m₀ n) :
    m' = fun n => if n = a then m' a else if n = b then vb else if n = c then vc else if n = d then vd else if n = e then ve else m₀ n := by
  funext n
  by_cases h1 : n = a
  · subst h1; rw [if_pos rfl]
  rw [if_neg h1]
  by_cases h2 : n = b
  · subst h2; rw [if_pos rfl]; exact hb
  rw [if_neg h2]
  by_cases h3 : n = c
  · subst h3; rw [if_pos rfl]; exact hc
  rw [if_neg h3]
  by_cases h4 : n = d
  · subst h4; rw [if_pos rfl]; exact hd
  rw [if_neg h4]
  by_cases h5 : n = e
  · subst h5; rw [if_pos rfl]; exact he
  rw [if_neg h5]
  exact h n h1 h2 h3 h4 h5
end
section
set_option maxRecDepth 100000
set_option maxHeartbeats 8000000
local macro_rules | `(tactic| walk_at "fc enter") => `(tactic| k_dflt (first
  | (refine' code_def ?k1 ?k2 ?k3 ?k4 ?k5 ?kA ?kF ?kK ?k6 ?k7 ?k8 ?k9 ?kB ?_ ?c2 ?c3 ?c4 ?c5; (case kA => exact rfl); (case kF => exact rfl); (case kK => first | exact rfl | assumption); (case k1 => k_asm); (case k2 => k_asm); (case k3 => k_asm); (case k4 => k_asm); (case k5 => k_asm); (case k6 => k_is); (case k7 => k_is); (case k8 => ktr_room); (case k9 => first | exact BindsTo.of_eq rfl | exact binds_K (by k_in) rfl (by k_is) rfl rfl rfl); (case c5 => decide); (case kB => exact locs rfl); (case c2 => exact rfl); (case c3 => exact rfl); (case c4 => exact rfl); k_whole; intro g' L' h' FG' F' N' B' X' T'; (try dsimp only); (try k_lift B'); (try k_fold))
  | (refine' code_defC ?k1 ?k2 ?k3 ?k4 ?k5 ?kA ?kF ?kK ?k6 ?k7 ?k8 ?k9 ?kB ?kD ?_ ?c2 ?c3 ?c4; (case kA => exact rfl); (case kF => exact rfl); (case kK => first | exact rfl | assumption); (case k1 => k_asm); (case k2 => k_asm); (case k3 => k_asm); (case k4 => k_asm); (case k5 => k_asm); (case k6 => k_is); (case k7 => k_is); (case k8 => ktr_room); (case k9 => first | exact BindsTo.of_eq rfl | exact binds_K (by k_in) rfl (by k_is) rfl rfl rfl); (case kB => exact rfl); (case kD => decide +kernel); (case c2 => exact rfl); (case c3 => exact rfl); (case c4 => exact rfl); k_whole; intro g' L' h' tk' cells' FG' F' N' Y' B' X' T' l1; (try k_lt l1); k_cells Y'; (try simp only [List.cons_append, List.nil_append] at N'); (try dsimp only); (try k_lift B'); (try k_fold))))
local macro_rules | `(tactic| walk_at "fc enterW") => `(tactic| k_dflt (
  (refine' code_defW ?k1 ?k2 ?k3 ?k4 ?k5 ?kA ?kF ?kK ?k6 ?k7 ?k8 ?k9 ?kB ?_ ?c2 ?c3 ?c4 ?c5; (case kA => exact rfl); (case kF => exact rfl); (case kK => first | exact rfl | assumption); (case k1 => k_asm); (case k2 => k_asm); (case k3 => k_asm); (case k4 => k_asm); (case k5 => k_asm); (case k6 => k_is); (case k7 => k_is); (case k8 => ktr_room); (case k9 => first | exact BindsTo.of_eq rfl | exact binds_K (by k_in) rfl (by k_is) rfl rfl rfl); (case c5 => decide); (case kB => exact locs rfl); (case c2 => exact rfl); (case c3 => exact rfl); (case c4 => exact rfl); k_whole; intro g' L' h' tk' FG' F' N' B' X' T' l1; (try k_lt l1); (try dsimp only); (try k_lift B'))))
local macro_rules | `(tactic| k_all) => `(tactic| exact off_of_lt (by with_reducible assumption))
local macro_rules | `(tactic| k_all) => `(tactic| with_reducible assumption)
local macro_rules | `(tactic| walk_at "fc sub") => `(tactic| (intro p9 h9; simp only [List.mem_cons, List.mem_append] at h9 ⊢; grind))
local macro_rules | `(tactic| walk_at "fc led") => `(tactic| first
  | exact List.forall_mem_nil _
  | (refine' List.forall_mem_cons.mpr ⟨?fa, ?fb⟩; (case fa => k_mem); (case fb => walk_at "fc led"))
  | (intro p9 h9; repeat (first | exact h9 | refine List.Mem.tail _ ?_)))
local macro_rules | `(tactic| walk_at "exec While") => `(tactic| (rename ParkWhile => z9; clear z9; refine Parked.go ?_))
local macro_rules | `(tactic| walk_at "exec Try") => `(tactic| (rename ParkTry => z9; clear z9; refine Parked.go ?_))
local macro_rules | `(tactic| walk_at "exec For") => `(tactic| (rename ParkFor => z9; clear z9; refine Parked.go ?_))
local macro_rules | `(tactic| walk_at "exec For Name Call") => `(tactic| (rename ParkFor => z9; clear z9; refine Parked.go ?_))
local macro_rules | `(tactic| walk_at "exec For Name Call cons nil") => `(tactic| (rename ParkFor => z9; clear z9; refine Parked.go ?_))
local macro_rules | `(tactic| walk_at "exec For Name Name") => `(tactic| (rename ParkFor => z9; clear z9; refine Parked.go ?_))
local macro_rules | `(tactic| walk_at "exec For Name Name cons nil") => `(tactic| (rename ParkFor => z9; clear z9; refine Parked.go ?_))
local macro_rules | `(tactic| walk_at "exec For Name List cons nil") => `(tactic| (rename ParkFor => z9; clear z9; refine Parked.go ?_))
local macro_rules | `(tactic| walk_at "fc pick") => `(tactic| first | k_asm | (rename News _ _ _ _ => z9; exact cb_drop z9 (by walk_at "fc led")))
local macro_rules | `(tactic| walk_at "fc room") => `(tactic| first | omega | ((try simp only [depth_under_make, depth_under_kw, depth_in1, depth_deeper, depth_caller]); (try dsimp only [ktrTop]); omega) | ktr_room)
local macro_rules | `(tactic| walk_at "fc units") => `(tactic| first | omega | (have hcL9 := cLine_is; (try simp only [units_in1, units_deeper, Around.mark_units, units_caller]); (try dsimp only [ktrTop]); omega) | ktr_units)

namespace F
theorem slot_b_bytes : Slot "bytes" "__bytes__" "bytes.__bytes__" :=
  .of (owner := "bytes") (n := "__bytes__") (by rw [typeLookup_type, builtinLookup_eq_fast]; kernel_rfl) (by decide +kernel) (by decide +kernel) (by decide +kernel)
    (by first | exact .inl (by decide +kernel) | exact .inr (by decide +kernel)) (by rw [isSubtype_type]; kernel_rfl)
end F
section
variable {prog : Program} {w : World} {A : Around} {E : Value → Shared → Prop} {s : Shared}
theorem bytesNew_bytes {b : Array UInt8} {t : Tok} {Q : Value → Shared → Prop} (h : Q (.bytes b t) s) :
    codeAny (model prog w) A (.call (.builtin "bytes.__new__") ⟨[.type "bytes", .bytes b t], []⟩) (wants Q E) s := by
  refine codeAny_of_tree ?_
  show wpAny _ A.in1 (do checkBuiltinCall "bytes.__new__" ⟨[.type "bytes", .bytes b t], []⟩; again (.builtin "bytes.__new__" ⟨[.type "bytes", .bytes b t], []⟩)) _ _ s
  refine wpAny_bind (wpAny_of_eq (PySem.F.bm_newCall _) (wpAny_pure ⟨plainId_quiet PySem.F.bm_plain _, codeAny_builtin PySem.F.bm_entry ?_⟩))
  rw [Around.under_plainId PySem.F.bm_plain _]
  have hT : s.TypeIs (.bytes b t) "bytes" := PySem.W.typeIs_bytes _ _ _
  unfold Builtin.«bytes.__new__»
  refine wpAny_bind (wpAny_of_eq (a := true) rfl ?_)
  refine bm_if_false rfl ?_
  refine wpAny_bind (wpAny_of_eq PySem.F.bm_sub ?_)
  refine bm_if_false rfl ?_
  refine wpAny_bind (wpAny_of_eq (PySem.F.bm_bind _) ?_)
  refine wpAny_bind (wpAny_of_eq (a := ()) rfl ?_)
  refine wpAny_bind (wpAny_of_eq (a := ()) rfl ?_)
  refine bm_if_false rfl ?_
  refine wpAny_bind (wpAny_specialOf hT F.slot_b_bytes.lookup ?_)
  refine wpAny_bind (wpAny_rule ?_)
  refine wpAny_bind (wpAny_of_eq (a := Value.type "bytes") rfl ?_)
  refine bm_if_true (by decide) ?_
  first
    | exact wpAny_pure h
    | exact wpAny_bind (wpAny_pure (wpAny_pure h))
    | (refine bm_if_true (by decide) ?_; first | exact wpAny_pure h | exact wpAny_bind (wpAny_pure (wpAny_pure h)) | exact wpAny_pure (wpAny_pure h))
theorem call_bytes_bytes {b : Array UInt8} {t : Tok} {Q : Value → Shared → Prop} (h : Q (.bytes b t) s) : wpAny (model prog w) A (call (.type "bytes") [.bytes b t]) Q E s := by
  refine callType_codes (Q₁ := fun obj s₁ => s₁.TypeIs obj "bytes" ∧ Q obj s₁) PySem.F.bm_called (PySem.F.bm_typeCall _) PySem.F.entry_object_init
    (bytesNew_bytes ⟨PySem.W.typeIs_bytes _ _ _, h⟩) fun obj s₁ h₁ => ?_
  exact ⟨h₁.1, PySem.F.args_object_init_2 obj _, object_init_meets PySem.F.bm_called.init.lookup PySem.F.bm_called.made (by decide) prog w A.in1 _ s₁ ⟨h₁.1, rfl, h₁.2⟩⟩
end
end
section
local macro_rules | `(tactic| walk_at "fc nil") => `(tactic| fail "none")
set_option maxRecDepth 100000
set_option maxHeartbeats 8000000
local macro_rules | `(tactic| walk_at "fc enter") => `(tactic| k_dflt (first
  | (refine' code_def ?k1 ?k2 ?k3 ?k4 ?k5 ?kA ?kF ?kK ?k6 ?k7 ?k8 ?k9 ?kB ?_ ?c2 ?c3 ?c4 ?c5; (case kA => exact rfl); (case kF => exact rfl); (case kK => first | exact rfl | assumption); (case k1 => k_asm); (case k2 => k_asm); (case k3 => k_asm); (case k4 => k_asm); (case k5 => k_asm); (case k6 => k_is); (case k7 => k_is); (case k8 => ktr_room); (case k9 => first | exact BindsTo.of_eq rfl | exact binds_K (by k_in) rfl (by k_is) rfl rfl rfl); (case c5 => decide); (case kB => exact locs rfl); (case c2 => exact rfl); (case c3 => exact rfl); (case c4 => exact rfl); k_whole; intro g' L' h' FG' F' N' B' X' T'; (try dsimp only); (try k_lift B'); (try k_fold))
  | (refine' code_defC ?k1 ?k2 ?k3 ?k4 ?k5 ?kA ?kF ?kK ?k6 ?k7 ?k8 ?k9 ?kB ?kD ?_ ?c2 ?c3 ?c4; (case kA => exact rfl); (case kF => exact rfl); (case kK => first | exact rfl | assumption); (case k1 => k_asm); (case k2 => k_asm); (case k3 => k_asm); (case k4 => k_asm); (case k5 => k_asm); (case k6 => k_is); (case k7 => k_is); (case k8 => ktr_room); (case k9 => first | exact BindsTo.of_eq rfl | exact binds_K (by k_in) rfl (by k_is) rfl rfl rfl); (case kB => exact rfl); (case kD => decide +kernel); (case c2 => exact rfl); (case c3 => exact rfl); (case c4 => exact rfl); k_whole; intro g' L' h' tk' cells' FG' F' N' Y' B' X' T' l1; (try k_lt l1); k_cells Y'; (try simp only [List.cons_append, List.nil_append] at N'); (try dsimp only); (try k_lift B'); (try k_fold))))
local macro_rules | `(tactic| walk_at "fc enterW") => `(tactic| k_dflt (
  (refine' code_defW ?k1 ?k2 ?k3 ?k4 ?k5 ?kA ?kF ?kK ?k6 ?k7 ?k8 ?k9 ?kB ?_ ?c2 ?c3 ?c4 ?c5; (case kA => exact rfl); (case kF => exact rfl); (case kK => first | exact rfl | assumption); (case k1 => k_asm); (case k2 => k_asm); (case k3 => k_asm); (case k4 => k_asm); (case k5 => k_asm); (case k6 => k_is); (case k7 => k_is); (case k8 => ktr_room); (case k9 => first | exact BindsTo.of_eq rfl | exact binds_K (by k_in) rfl (by k_is) rfl rfl rfl); (case c5 => decide); (case kB => exact locs rfl); (case c2 => exact rfl); (case c3 => exact rfl); (case c4 => exact rfl); k_whole; intro g' L' h' tk' FG' F' N' B' X' T' l1; (try k_lt l1); (try dsimp only); (try k_lift B'))))
local macro_rules | `(tactic| k_all) => `(tactic| exact off_of_lt (by with_reducible assumption))
local macro_rules | `(tactic| k_all) => `(tactic| with_reducible assumption)
local macro_rules | `(tactic| walk_at "fc sub") => `(tactic| (intro p9 h9; simp only [List.mem_cons, List.mem_append] at h9 ⊢; grind))
local macro_rules | `(tactic| walk_at "fc led") => `(tactic| first
  | exact List.forall_mem_nil _
  | (refine' List.forall_mem_cons.mpr ⟨?fa, ?fb⟩; (case fa => k_mem); (case fb => walk_at "fc led"))
  | (intro p9 h9; repeat (first | exact h9 | refine List.Mem.tail _ ?_)))
local macro_rules | `(tactic| walk_at "exec While") => `(tactic| (rename ParkWhile => z9; clear z9; refine Parked.go ?_))
local macro_rules | `(tactic| walk_at "exec Try") => `(tactic| (rename ParkTry => z9; clear z9; refine Parked.go ?_))
local macro_rules | `(tactic| walk_at "exec For") => `(tactic| (rename ParkFor => z9; clear z9; refine Parked.go ?_))
local macro_rules | `(tactic| walk_at "exec For Name Call") => `(tactic| (rename ParkFor => z9; clear z9; refine Parked.go ?_))
local macro_rules | `(tactic| walk_at "exec For Name Call cons nil") => `(tactic| (rename ParkFor => z9; clear z9; refine Parked.go ?_))
local macro_rules | `(tactic| walk_at "exec For Name Name") => `(tactic| (rename ParkFor => z9; clear z9; refine Parked.go ?_))
local macro_rules | `(tactic| walk_at "exec For Name Name cons nil") => `(tactic| (rename ParkFor => z9; clear z9; refine Parked.go ?_))
local macro_rules | `(tactic| walk_at "exec For Name List cons nil") => `(tactic| (rename ParkFor => z9; clear z9; refine Parked.go ?_))
local macro_rules | `(tactic| walk_at "fc pick") => `(tactic| first | k_asm | (rename News _ _ _ _ => z9; exact cb_drop z9 (by walk_at "fc led")))
local macro_rules | `(tactic| walk_at "fc room") => `(tactic| first | omega | ((try simp only [depth_under_make, depth_under_kw, depth_in1, depth_deeper, depth_caller]); (try dsimp only [ktrTop]); omega) | ktr_room)
local macro_rules | `(tactic| walk_at "fc units") => `(tactic| first | omega | (have hcL9 := cLine_is; (try simp only [units_in1, units_deeper, Around.mark_units, units_caller]); (try dsimp only [ktrTop]); omega) | ktr_units)

theorem spec_isInt {w : World} {mean : ExcName → Option Value} {mg mb : Str → Option Value} {news : List (Addr × Obj)} {v : Int} {t : Tok} :
    Spec w mean mg mb 73 [.int v t] news 10 100 (fun r news' => news = news' ∧ r = .bool true) := by
  unfold Spec
  k_fill
  intro dp un gd cn cs a ccd cl outer A₀ base h₀ L m s Q E B F X N T hk hd hu hret
  refine wpAny_call ?_
  walk_at "fc enter"
  k_steps
  rename News h₀ L _ _ => kN
  rename Fr h₀ L _ m => kF
  exact hret _ _ _ _ kF kN ⟨rfl, rfl⟩
theorem spec_keyWord {w : World} {mean : ExcName → Option Value} {mg mb : Str → Option Value} {news : List (Addr × Obj)} {v : Int} {t u : Tok} {nm : Str} (h : 0 ≤ v ∧ v < 2 ^ 64) :
    Spec w mean mg mb 80 [.int v t, .str nm u] news 20 200 (fun r news' => news = news' ∧ ∃ t', r = .int v t') := by
  obtain ⟨h2, h3⟩ := h
  unfold Spec
  k_fill
  intro dp un gd cn cs a ccd cl outer A₀ base h₀ L m s Q E B F X N T hk hd hu hret
  refine wpAny_call ?_
  walk_at "fc enter"
  k_steps
  refine' spec_use (spec_isInt) ?k1 ?k2 ?k3 ?k4 ?k5 ?kK ?kd ?ku ?_
  case k1 => k_asm
  case k2 => k_asm
  case k3 => k_asm
  case k4 => walk_at "fc pick"
  case k5 => k_asm
  case kK => first | exact rfl | assumption
  case kd => walk_at "fc room"
  case ku => walk_at "fc units"
  rintro r news' h' tk' F' N' ⟨rfl, rfl⟩
  k_steps
  rename News h₀ L _ _ => kN
  rename Fr h₀ L _ m => kF
  exact hret _ _ _ _ kF kN ⟨rfl, _, rfl⟩
end
section
set_option maxRecDepth 100000
set_option maxHeartbeats 8000000
local macro_rules | `(tactic| walk_at "fc enter") => `(tactic| k_dflt (first
  | (refine' code_def ?k1 ?k2 ?k3 ?k4 ?k5 ?kA ?kF ?kK ?k6 ?k7 ?k8 ?k9 ?kB ?_ ?c2 ?c3 ?c4 ?c5; (case kA => exact rfl); (case kF => exact rfl); (case kK => first | exact rfl | assumption); (case k1 => k_asm); (case k2 => k_asm); (case k3 => k_asm); (case k4 => k_asm); (case k5 => k_asm); (case k6 => k_is); (case k7 => k_is); (case k8 => ktr_room); (case k9 => first | exact BindsTo.of_eq rfl | exact binds_K (by k_in) rfl (by k_is) rfl rfl rfl); (case c5 => decide); (case kB => exact locs rfl); (case c2 => exact rfl); (case c3 => exact rfl); (case c4 => exact rfl); k_whole; intro g' L' h' FG' F' N' B' X' T'; (try dsimp only); (try k_lift B'); (try k_fold))
  | (refine' code_defC ?k1 ?k2 ?k3 ?k4 ?k5 ?kA ?kF ?kK ?k6 ?k7 ?k8 ?k9 ?kB ?kD ?_ ?c2 ?c3 ?c4; (case kA => exact rfl); (case kF => exact rfl); (case kK => first | exact rfl | assumption); (case k1 => k_asm); (case k2 => k_asm); (case k3 => k_asm); (case k4 => k_asm); (case k5 => k_asm); (case k6 => k_is); (case k7 => k_is); (case k8 => ktr_room); (case k9 => first | exact BindsTo.of_eq rfl | exact binds_K (by k_in) rfl (by k_is) rfl rfl rfl); (case kB => exact rfl); (case kD => decide +kernel); (case c2 => exact rfl); (case c3 => exact rfl); (case c4 => exact rfl); k_whole; intro g' L' h' tk' cells' FG' F' N' Y' B' X' T' l1; (try k_lt l1); k_cells Y'; (try simp only [List.cons_append, List.nil_append] at N'); (try dsimp only); (try k_lift B'); (try k_fold))))
local macro_rules | `(tactic| walk_at "fc enterW") => `(tactic| k_dflt (
  (refine' code_defW ?k1 ?k2 ?k3 ?k4 ?k5 ?kA ?kF ?kK ?k6 ?k7 ?k8 ?k9 ?kB ?_ ?c2 ?c3 ?c4 ?c5; (case kA => exact rfl); (case kF => exact rfl); (case kK => first | exact rfl | assumption); (case k1 => k_asm); (case k2 => k_asm); (case k3 => k_asm); (case k4 => k_asm); (case k5 => k_asm); (case k6 => k_is); (case k7 => k_is); (case k8 => ktr_room); (case k9 => first | exact BindsTo.of_eq rfl | exact binds_K (by k_in) rfl (by k_is) rfl rfl rfl); (case c5 => decide); (case kB => exact locs rfl); (case c2 => exact rfl); (case c3 => exact rfl); (case c4 => exact rfl); k_whole; intro g' L' h' tk' FG' F' N' B' X' T' l1; (try k_lt l1); (try dsimp only); (try k_lift B'))))
local macro_rules | `(tactic| k_all) => `(tactic| exact off_of_lt (by with_reducible assumption))
local macro_rules | `(tactic| k_all) => `(tactic| with_reducible assumption)
local macro_rules | `(tactic| walk_at "fc sub") => `(tactic| (intro p9 h9; simp only [List.mem_cons, List.mem_append] at h9 ⊢; grind))
local macro_rules | `(tactic| walk_at "fc led") => `(tactic| first
  | exact List.forall_mem_nil _
  | (refine' List.forall_mem_cons.mpr ⟨?fa, ?fb⟩; (case fa => k_mem); (case fb => walk_at "fc led"))
  | (intro p9 h9; repeat (first | exact h9 | refine List.Mem.tail _ ?_)))
local macro_rules | `(tactic| walk_at "exec While") => `(tactic| (rename ParkWhile => z9; clear z9; refine Parked.go ?_))
local macro_rules | `(tactic| walk_at "exec Try") => `(tactic| (rename ParkTry => z9; clear z9; refine Parked.go ?_))
local macro_rules | `(tactic| walk_at "exec For") => `(tactic| (rename ParkFor => z9; clear z9; refine Parked.go ?_))
local macro_rules | `(tactic| walk_at "exec For Name Call") => `(tactic| (rename ParkFor => z9; clear z9; refine Parked.go ?_))
local macro_rules | `(tactic| walk_at "exec For Name Call cons nil") => `(tactic| (rename ParkFor => z9; clear z9; refine Parked.go ?_))
local macro_rules | `(tactic| walk_at "exec For Name Name") => `(tactic| (rename ParkFor => z9; clear z9; refine Parked.go ?_))
local macro_rules | `(tactic| walk_at "exec For Name Name cons nil") => `(tactic| (rename ParkFor => z9; clear z9; refine Parked.go ?_))
local macro_rules | `(tactic| walk_at "exec For Name List cons nil") => `(tactic| (rename ParkFor => z9; clear z9; refine Parked.go ?_))
local macro_rules | `(tactic| walk_at "fc pick") => `(tactic| first | k_asm | (rename News _ _ _ _ => z9; exact cb_drop z9 (by walk_at "fc led")))
local macro_rules | `(tactic| walk_at "fc room") => `(tactic| first | omega | ((try simp only [depth_under_make, depth_under_kw, depth_in1, depth_deeper, depth_caller]); (try dsimp only [ktrTop]); omega) | ktr_room)
local macro_rules | `(tactic| walk_at "fc units") => `(tactic| first | omega | (have hcL9 := cLine_is; (try simp only [units_in1, units_deeper, Around.mark_units, units_caller]); (try dsimp only [ktrTop]); omega) | ktr_units)

theorem spec_bfo {w : World} {mean : ExcName → Option Value} {mg mb : Str → Option Value} {news : List (Addr × Obj)} {bs : Array UInt8} {t : Tok} (hz : bs.size < 1000) :
    Spec w mean mg mb 59 [.bytes bs t] news 20 200 (fun r news' => news = news' ∧ ∃ t', r = .bytes bs t') := by
  unfold Spec
  k_fill
  intro dp un gd cn cs a ccd cl outer A₀ base h₀ L m s Q E B F X N T hk hd hu hret
  refine wpAny_call ?_
  walk_at "fc enter"
  k_steps
  refine call_bytes_bytes ?_
  k_steps
  rename News h₀ L _ _ => kN
  rename Fr h₀ L _ m => kF
  exact hret _ _ _ _ kF (cb_drop (news := news) kN (by walk_at "fc led")) ⟨rfl, _, rfl⟩
end
section
set_option maxRecDepth 100000
set_option maxHeartbeats 1500000
local macro_rules | `(tactic| walk_at "fc enter") => `(tactic| k_dflt (first
  | (refine' code_def ?k1 ?k2 ?k3 ?k4 ?k5 ?kA ?kF ?kK ?k6 ?k7 ?k8 ?k9 ?kB ?_ ?c2 ?c3 ?c4 ?c5; (case kA => exact rfl); (case kF => exact rfl); (case kK => first | exact rfl | assumption); (case k1 => k_asm); (case k2 => k_asm); (case k3 => k_asm); (case k4 => k_asm); (case k5 => k_asm); (case k6 => k_is); (case k7 => k_is); (case k8 => ktr_room); (case k9 => first | exact BindsTo.of_eq rfl | exact binds_K (by k_in) rfl (by k_is) rfl rfl rfl); (case c5 => decide); (case kB => exact locs rfl); (case c2 => exact rfl); (case c3 => exact rfl); (case c4 => exact rfl); k_whole; intro g' L' h' FG' F' N' B' X' T'; (try dsimp only); (try k_lift B'); (try k_fold))
  | (refine' code_defC ?k1 ?k2 ?k3 ?k4 ?k5 ?kA ?kF ?kK ?k6 ?k7 ?k8 ?k9 ?kB ?kD ?_ ?c2 ?c3 ?c4; (case kA => exact rfl); (case kF => exact rfl); (case kK => first | exact rfl | assumption); (case k1 => k_asm); (case k2 => k_asm); (case k3 => k_asm); (case k4 => k_asm); (case k5 => k_asm); (case k6 => k_is); (case k7 => k_is); (case k8 => ktr_room); (case k9 => first | exact BindsTo.of_eq rfl | exact binds_K (by k_in) rfl (by k_is) rfl rfl rfl); (case kB => exact rfl); (case kD => decide +kernel); (case c2 => exact rfl); (case c3 => exact rfl); (case c4 => exact rfl); k_whole; intro g' L' h' tk' cells' FG' F' N' Y' B' X' T' l1; (try k_lt l1); k_cells Y'; (try simp only [List.cons_append, List.nil_append] at N'); (try dsimp only); (try k_lift B'); (try k_fold))))
local macro_rules | `(tactic| walk_at "fc enterW") => `(tactic| k_dflt (
  (refine' code_defW ?k1 ?k2 ?k3 ?k4 ?k5 ?kA ?kF ?kK ?k6 ?k7 ?k8 ?k9 ?kB ?_ ?c2 ?c3 ?c4 ?c5; (case kA => exact rfl); (case kF => exact rfl); (case kK => first | exact rfl | assumption); (case k1 => k_asm); (case k2 => k_asm); (case k3 => k_asm); (case k4 => k_asm); (case k5 => k_asm); (case k6 => k_is); (case k7 => k_is); (case k8 => ktr_room); (case k9 => first | exact BindsTo.of_eq rfl | exact binds_K (by k_in) rfl (by k_is) rfl rfl rfl); (case c5 => decide); (case kB => exact locs rfl); (case c2 => exact rfl); (case c3 => exact rfl); (case c4 => exact rfl); k_whole; intro g' L' h' tk' FG' F' N' B' X' T' l1; (try k_lt l1); (try dsimp only); (try k_lift B'))))
local macro_rules | `(tactic| k_all) => `(tactic| exact off_of_lt (by with_reducible assumption))
local macro_rules | `(tactic| k_all) => `(tactic| with_reducible assumption)
local macro_rules | `(tactic| walk_at "fc sub") => `(tactic| (intro p9 h9; simp only [List.mem_cons, List.mem_append] at h9 ⊢; grind))
local macro_rules | `(tactic| walk_at "fc led") => `(tactic| first
  | exact List.forall_mem_nil _
  | (refine' List.forall_mem_cons.mpr ⟨?fa, ?fb⟩; (case fa => k_mem); (case fb => walk_at "fc led"))
  | (intro p9 h9; repeat (first | exact h9 | refine List.Mem.tail _ ?_)))
local macro_rules | `(tactic| walk_at "exec While") => `(tactic| (rename ParkWhile => z9; clear z9; refine Parked.go ?_))
local macro_rules | `(tactic| walk_at "exec Try") => `(tactic| (rename ParkTry => z9; clear z9; refine Parked.go ?_))
local macro_rules | `(tactic| walk_at "exec For") => `(tactic| (rename ParkFor => z9; clear z9; refine Parked.go ?_))
local macro_rules | `(tactic| walk_at "exec For Name Call") => `(tactic| (rename ParkFor => z9; clear z9; refine Parked.go ?_))
local macro_rules | `(tactic| walk_at "exec For Name Call cons nil") => `(tactic| (rename ParkFor => z9; clear z9; refine Parked.go ?_))
local macro_rules | `(tactic| walk_at "exec For Name Name") => `(tactic| (rename ParkFor => z9; clear z9; refine Parked.go ?_))
local macro_rules | `(tactic| walk_at "exec For Name Name cons nil") => `(tactic| (rename ParkFor => z9; clear z9; refine Parked.go ?_))
local macro_rules | `(tactic| walk_at "exec For Name List cons nil") => `(tactic| (rename ParkFor => z9; clear z9; refine Parked.go ?_))
local macro_rules | `(tactic| walk_at "fc pick") => `(tactic| first | k_asm | (rename News _ _ _ _ => z9; exact cb_drop z9 (by walk_at "fc led")))
local macro_rules | `(tactic| walk_at "fc room") => `(tactic| first | omega | ((try simp only [depth_under_make, depth_under_kw, depth_in1, depth_deeper, depth_caller]); (try dsimp only [ktrTop]); omega) | ktr_room)
local macro_rules | `(tactic| walk_at "fc units") => `(tactic| first | omega | (have hcL9 := cLine_is; (try simp only [units_in1, units_deeper, Around.mark_units, units_caller]); (try dsimp only [ktrTop]); omega) | ktr_units)

local macro_rules | `(tactic| walk_at "fc r64") => `(tactic| first | with_reducible assumption | with_reducible exact and_mask _ | with_reducible exact rotl_range _ _ | with_reducible exact r64_255 | (with_reducible refine xor_range ?_ ?_ <;> walk_at "fc r64") | (with_reducible refine or_range ?_ ?_ <;> walk_at "fc r64") | exact r64_255)
local macro_rules | `(tactic| walk_at "call ref") => `(tactic| ((with_reducible show wpAny _ _ (call (Value.ref 94) _) _ _ _); refine' spec_use (spec_round2 ?h0 ?h1 ?h2 ?h3) ?k1 ?k2 ?k3 ?k4 ?k5 ?kK ?kd ?ku ?_; (case h0 => walk_at "fc r64"); (case h1 => walk_at "fc r64"); (case h2 => walk_at "fc r64"); (case h3 => walk_at "fc r64"); (case k1 => k_asm); (case k2 => k_asm); (case k3 => k_asm); (case k4 => walk_at "fc pick"); (case k5 => k_asm); (case kK => first | exact rfl | assumption); (case kd => walk_at "fc room"); (case ku => walk_at "fc units"); intro r9 n9 h9 tk9 F' N' e9; obtain ⟨D9, t9, u9, v9, w9, q9, eq9, ⟨oa9, ob9, oc9, od9⟩, e8, l9, e7⟩ := e9; subst e8; subst e7; try dsimp only))
local macro_rules | `(tactic| walk_at "call ref") => `(tactic| ((with_reducible show wpAny _ _ (call (Value.ref 80) _) _ _ _); refine' spec_use (spec_keyWord ?h0) ?k1 ?k2 ?k3 ?k4 ?k5 ?kK ?kd ?ku ?_; (case h0 => assumption); (case k1 => k_asm); (case k2 => k_asm); (case k3 => k_asm); (case k4 => walk_at "fc pick"); (case k5 => k_asm); (case kK => first | exact rfl | assumption); (case kd => walk_at "fc room"); (case ku => walk_at "fc units"); intro r9 n9 h9 tk9 F' N' e9; obtain ⟨e8, t9, e7⟩ := e9; subst e8; subst e7; try dsimp only))
local macro_rules | `(tactic| walk_at "call ref") => `(tactic| ((with_reducible show wpAny _ _ (call (Value.ref 59) _) _ _ _); refine' spec_use (spec_bfo ?h0) ?k1 ?k2 ?k3 ?k4 ?k5 ?kK ?kd ?ku ?_; (case h0 => omega); (case k1 => k_asm); (case k2 => k_asm); (case k3 => k_asm); (case k4 => walk_at "fc pick"); (case k5 => k_asm); (case kK => first | exact rfl | assumption); (case kd => walk_at "fc room"); (case ku => walk_at "fc units"); intro r9 n9 h9 tk9 F' N' e9; obtain ⟨e8, t9, e7⟩ := e9; subst e8; subst e7; try dsimp only))
structure SipSt where
  s : S4
  pd : Int
/-- one octet -/
def sipStep (i : Nat) (x : SipSt) (b : Int) : SipSt :=
  let pd := Builtin.bitOr x.pd (b * 2 ^ (8 * (i : Int).fmod 8).toNat)
  if i = 7 then
    let r := sipRound (sipRound ⟨x.s.a, x.s.b, x.s.c, Builtin.bitXor x.s.d pd⟩)
    ⟨⟨Builtin.bitXor r.a pd, r.b, r.c, r.d⟩, 0⟩
  else ⟨x.s, pd⟩
def sipAt (x : SipSt) (ks : List Int) : Nat → SipSt
  | 0 => x
  | i + 1 => sipStep i (sipAt x ks i) (ks.getD i 0)
def SipSt.ok (x : SipSt) : Prop := x.s.ok ∧ R64 x.pd
theorem shl_range {b : Int} {i : Nat} (h0 : 0 ≤ b) (h1 : b < 256) (hi : i < 8) : R64 (b * 2 ^ (8 * (i : Int).fmod 8).toNat) := by
  have e : (8 * (i : Int).fmod 8).toNat = 8 * i := by rw [Int.fmod_eq_emod_of_nonneg _ (by decide)]; omega
  rw [e]
  have h2 : (2 : Int) ^ (8 * i) ≤ 2 ^ 56 := by exact_mod_cast Nat.pow_le_pow_right (n := 2) (by decide) (show 8 * i ≤ 56 by omega)
  have h3 : (0 : Int) < 2 ^ (8 * i) := Int.pow_pos (by decide)
  refine ⟨Int.mul_nonneg h0 (by omega), ?_⟩
  calc b * 2 ^ (8 * i) ≤ b * 2 ^ 56 := Int.mul_le_mul_of_nonneg_left h2 h0
    _ < 2 ^ 64 := by omega
theorem sipStep_ok {i : Nat} {x : SipSt} {b : Int} (hx : x.ok) (h0 : 0 ≤ b) (h1 : b < 256) (hi : i < 8) : (sipStep i x b).ok := by
  obtain ⟨⟨ha, hb, hc, hd⟩, hp⟩ := hx
  have hpd := or_range hp (shl_range h0 h1 hi)
  have hr := sipRound_ok (sipRound ⟨x.s.a, x.s.b, x.s.c, Builtin.bitXor x.s.d (Builtin.bitOr x.pd (b * 2 ^ (8 * (i : Int).fmod 8).toNat))⟩)
  unfold sipStep
  by_cases h : i = 7
  · dsimp only
    rw [if_pos h]
    exact ⟨⟨xor_range hr.1 hpd, hr.2.1, hr.2.2.1, hr.2.2.2⟩, r64_0⟩
  · dsimp only
    rw [if_neg h]
    exact ⟨⟨ha, hb, hc, hd⟩, hpd⟩
theorem sipStep_7 {i : Nat} {x : SipSt} {b : Int} (h : i = 7) : sipStep i x b = (fun pd => (fun r => (⟨⟨Builtin.bitXor r.a pd, r.b, r.c, r.d⟩, 0⟩ : SipSt)) (sipRound (sipRound ⟨x.s.a, x.s.b, x.s.c, Builtin.bitXor x.s.d pd⟩))) (Builtin.bitOr x.pd (b * 2 ^ (8 * (i : Int).fmod 8).toNat)) := by
  unfold sipStep; dsimp only; rw [if_pos h]
theorem sipAt_ok {x : SipSt} {ks : List Int} (hx : x.ok) (hk : ∀ k ∈ ks, 0 ≤ k ∧ k < 256) : ∀ i, i ≤ 8 → (sipAt x ks i).ok
  | 0, _ => hx
  | i + 1, hi => by
    have h : 0 ≤ ks.getD i 0 ∧ ks.getD i 0 < 256 := by
      by_cases hl : i < ks.length
      · rw [List.getD_eq_getElem?_getD, List.getElem?_eq_getElem hl]; exact hk _ (List.getElem_mem hl)
      · rw [getD_out (by omega)]; decide
    exact sipStep_ok (sipAt_ok hx hk i (by omega)) h.1 h.2 (by omega)
/-- the end -/
def sipEnd (x : SipSt) (n : Nat) : Int :=
  let pd := Builtin.bitOr x.pd ((n : Int) * 2 ^ Int.toNat 56)
  let r := sipRound (sipRound ⟨x.s.a, x.s.b, x.s.c, Builtin.bitXor x.s.d pd⟩)
  let q := sipRound (sipRound (sipRound (sipRound ⟨Builtin.bitXor r.a pd, r.b, Builtin.bitXor r.c 255, r.d⟩)))
  Builtin.bitXor (Builtin.bitXor (Builtin.bitXor q.a q.b) q.c) q.d
def sipStart (k0 k1 : Int) : SipSt := ⟨⟨Builtin.bitXor 8317987319222330741 k0, Builtin.bitXor 7237128888997146477 k1, Builtin.bitXor 7816392313619706465 k0, Builtin.bitXor 8387220255154660723 k1⟩, 0⟩
theorem sipStart_ok {k0 k1 : Int} (h0 : R64 k0) (h1 : R64 k1) : (sipStart k0 k1).ok :=
  ⟨⟨xor_range ⟨by decide, by decide⟩ h0, xor_range ⟨by decide, by decide⟩ h1, xor_range ⟨by decide, by decide⟩ h0, xor_range ⟨by decide, by decide⟩ h1⟩, r64_0⟩
def sipV (k0 k1 : Int) (ks : List Int) : Int := sipEnd (sipAt (sipStart k0 k1) ks ks.length) ks.length
abbrev sipMap (u : Option Value) (x : SipSt) (i : Nat) (t0 t1 t2 t3 t4 t5 : Tok) (m₀ : Str → Option Value) : Str → Option Value := fun y =>
  if y = Str.ofString "byte" then u else if y = Str.ofString "pending" then some (.int x.pd t0) else if y = Str.ofString "count" then some (.int (i : Int) t1) else
  if y = Str.ofString "v0" then some (.int x.s.a t2) else if y = Str.ofString "v1" then some (.int x.s.b t3) else if y = Str.ofString "v2" then some (.int x.s.c t4) else if y = Str.ofString "v3" then some (.int x.s.d t5) else m₀ y
def sipIter (q : S4) : Nat → S4
  | 0 => q
  | j + 1 => sipRound (sipIter q j)
abbrev sipMap4 (u : Option Value) (q : S4) (t0 t1 t2 t3 : Tok) (m₀ : Str → Option Value) : Str → Option Value := fun y =>
  if y = Str.ofString "_" then u else if y = Str.ofString "v0" then some (.int q.a t0) else if y = Str.ofString "v1" then some (.int q.b t1) else if y = Str.ofString "v2" then some (.int q.c t2) else if y = Str.ofString "v3" then some (.int q.d t3) else m₀ y
theorem sipIter_ok {q : S4} (h : R64 q.a ∧ R64 q.b ∧ R64 q.c ∧ R64 q.d) : ∀ j, R64 (sipIter q j).a ∧ R64 (sipIter q j).b ∧ R64 (sipIter q j).c ∧ R64 (sipIter q j).d
  | 0 => h
  | _ + 1 => sipRound_ok _
theorem spec_siphash {w : World} {mean : ExcName → Option Value} {mg mb : Str → Option Value} {news : List (Addr × Obj)} {k0 k1 : Int} {t0 t1 tb : Tok} {bs : Array UInt8} {ks : List Int} (hks : KBw.bInts bs = ks) (h0 : 0 ≤ k0 ∧ k0 < 2 ^ 64) (h1 : 0 ≤ k1 ∧ k1 < 2 ^ 64) (hz : ks.length ≤ 8) :
    Spec w mean mg mb 101 [.int k0 t0, .int k1 t1, .bytes bs tb] news 40 400 (fun r news' => news = news' ∧ ∃ t', r = .int (sipV k0 k1 ks) t') := by
  have hbz : bs.size ≤ 8 := by rw [← KBw.ints_length, hks]; exact hz
  unfold Spec
  k_fill
  intro dp un gd cn cs a ccd cl outer A₀ base h₀ L m s Q E B F X N T hk hd hu hret
  refine wpAny_call ?_
  walk_at "fc enter"
  have parkF : ParkFor := trivial
  k_steps
  refine exec_forA ?_
  k_steps
  refine' forBytesN (K := allK) (J := fun m₀ n₁ i m' news' => (∃ u t0 t1 t2 t3 t4 t5, m' = sipMap u (sipAt (sipStart k0 k1) ks i) i t0 t1 t2 t3 t4 t5 m₀) ∧ news' = n₁) ?hh ?hK ?hKb ?hk ?hx ?F ?N ?h0 ?sep ?turn ?done
  case hh => exact rfl
  case hK => exact fun _ => rfl
  case hKb => exact rfl
  case hk => exact rfl
  case hx => exact rfl
  case F => k_asm
  case N => k_asm
  case h0 => exact ⟨⟨_, _, _, _, _, _, _, frame7 rfl rfl rfl rfl rfl rfl (fun n e1 e2 e3 e4 e5 e6 e7 => rfl)⟩, rfl⟩
  case sep =>
    rintro I i m' news' hI _ ⟨_, rfl⟩ p hp
    exact Nat.ne_of_lt (hI p hp)
  case turn =>
    intro I hI i c o m' news' h tk tk' hc hJ F1 N1
    obtain ⟨⟨u, t0, t1, t2, t3, t4, t5, rfl⟩, rfl⟩ := hJ
    have hi : i < 8 := by
      have := (Array.getElem?_eq_some_iff.mp hc).1
      omega
    have hcr := c.toNat_lt
    have hok := sipAt_ok (sipStart_ok h0 h1) (ks := ks) (fun k hk => by rw [← hks] at hk; exact KBw.ints_in hk) i (by omega)
    have hsh : R64 ((c.toNat : Int) * 2 ^ (8 * (i : Int).fmod 8).toNat) := shl_range (by omega) (by omega) hi
    have hgc : ks.getD i 0 = (c.toNat : Int) := by
      have := KBw.ints_get hc
      rw [hks] at this
      rw [List.getD_eq_getElem?_getD, this]; rfl
    have hnx : sipAt (sipStart k0 k1) ks (i + 1) = sipStep i (sipAt (sipStart k0 k1) ks i) (c.toNat : Int) := by rw [← hgc]; rfl
    rw [hnx]
    generalize sipAt (sipStart k0 k1) ks i = st at hok F1 ⊢
    obtain ⟨⟨ha, hb, hc', hd'⟩, hp⟩ := hok
    have hcnt : Builtin.bitAnd ((i : Int) + 1) 255 = ((i + 1 : Nat) : Int) := by rw [bitAnd_m8]; omega
    refine wpS_of ?_
    k_steps
    · rename (Builtin.bitAnd (Builtin.bitAnd _ _) _ = 0) => hcond
      rw [hcnt, bitAnd_m3] at hcond
      have h7 : i = 7 := by omega
      have hs := sipStep_7 (x := st) (b := (c.toNat : Int)) h7
      rw [hs]
      rename Fr _ _ _ _ => F9
      rename News _ _ _ _ => N9
      subst_vars
      exact TurnEnd.next F9 N9 (by walk_at "fc led") ⟨⟨_, _, _, _, _, _, _, frame7 rfl (congrArg (fun z => some (Value.int z _)) hcnt) rfl rfl rfl rfl (fun n e1 e2 e3 e4 e5 e6 e7 => by simp only [sipMap, e1, e2, e3, e4, e5, e6, e7, if_false])⟩, rfl⟩
    · rename (Builtin.bitAnd (Builtin.bitAnd _ _) _ ≠ 0) => hcond
      rw [hcnt, bitAnd_m3] at hcond
      have h7 : i ≠ 7 := by omega
      have hs : sipStep i st (c.toNat : Int) = ⟨st.s, Builtin.bitOr st.pd ((c.toNat : Int) * 2 ^ (8 * (i : Int).fmod 8).toNat)⟩ := by
        unfold sipStep; dsimp only; rw [if_neg h7]
      rw [hs]
      rename Fr _ _ _ _ => F9
      rename News _ _ _ _ => N9
      exact TurnEnd.next F9 N9 (by walk_at "fc led") ⟨⟨_, _, _, _, _, _, _, frame7 rfl (congrArg (fun z => some (Value.int z _)) hcnt) rfl rfl rfl rfl (fun n e1 e2 e3 e4 e5 e6 e7 => by simp only [sipMap, e1, e2, e3, e4, e5, e6, e7, if_false])⟩, rfl⟩
  case done =>
    intro m' news' h9 tk9 hJ F1 N1
    obtain ⟨⟨u, t0, t1, t2, t3, t4, t5, rfl⟩, rfl⟩ := hJ
    have hbl : bs.size = ks.length := by rw [← KBw.ints_length, hks]
    have hok := sipAt_ok (sipStart_ok h0 h1) (ks := ks) (fun k hk => by rw [← hks] at hk; exact KBw.ints_in hk) bs.size hbz
    have hval : sipV k0 k1 ks = sipEnd (sipAt (sipStart k0 k1) ks bs.size) bs.size := by rw [hbl]; rfl
    rw [hval] at hret
    generalize sipAt (sipStart k0 k1) ks bs.size = st at hok F1 hret ⊢
    generalize bs.size = nb at hbz F1 hret ⊢
    obtain ⟨⟨ha, hb, hc', hd'⟩, hp⟩ := hok
    have hsh : R64 ((nb : Int) * 2 ^ Int.toNat 56) := by
      rw [show Int.toNat 56 = 56 from rfl]
      constructor <;> omega
    dsimp only
    have parkF : ParkFor := trivial
    k_steps
    refine exec_forA ?_
    k_steps
    refine' forRangeN (K := allK) (n := 4) (J := fun m₁ n₁ j m' news' => (∃ q : S4, (∃ u0 u1 u2 u3, m₁ (Str.ofString "v0") = some (.int q.a u0) ∧ m₁ (Str.ofString "v1") = some (.int q.b u1) ∧ m₁ (Str.ofString "v2") = some (.int q.c u2) ∧ m₁ (Str.ofString "v3") = some (.int q.d u3)) ∧
      (R64 q.a ∧ R64 q.b ∧ R64 q.c ∧ R64 q.d) ∧ ∃ u w0 w1 w2 w3, m' = sipMap4 u (sipIter q j) w0 w1 w2 w3 m₁) ∧ news' = n₁) ?xhh ?xhK ?xhKb ?xhk ?xhx ?xhr ?xF ?xN ?xhsm ?xhn ?xh0 ?xsep ?xturn ?xdone
    case xhh => exact rfl
    case xhK => exact fun _ => rfl
    case xhKb => exact rfl
    case xhk => exact rfl
    case xhx => exact rfl
    case xhr => assumption
    case xF => k_asm
    case xN => k_asm
    case xhsm => decide
    case xhn => decide
    case xh0 =>
      refine ⟨⟨⟨_, _, _, _⟩, ⟨_, _, _, _, rfl, rfl, rfl, rfl⟩, ⟨?_, ?_, ?_, ?_⟩, _, _, _, _, _, frame5 rfl rfl rfl rfl (fun n e1 e2 e3 e4 e5 => rfl)⟩, rfl⟩
      · exact xor_range (by assumption) (or_range (by assumption) (by assumption))
      · assumption
      · exact xor_range (by assumption) r64_255
      · assumption
    case xsep =>
      rintro J i m' news' hJ _ ⟨_, rfl⟩ p hp
      exact Nat.ne_of_lt (hJ p hp)
    case xturn =>
      intro J hJ j tk9 o9 m' news' h9 tk8 hj hJ9 F1 N1
      obtain ⟨⟨q, hq0, hqok, u, w0, w1, w2, w3, rfl⟩, rfl⟩ := hJ9
      obtain ⟨p0, p1, p2, p3⟩ := sipIter_ok hqok j
      refine wpS_of ?_
      k_steps
      rename Fr _ _ _ _ => F9
      rename News _ _ _ _ => N9
      rename (_ = sipRound _) => eq9
      have eq9' := eq9.trans (show sipRound ⟨(sipIter q j).a, (sipIter q j).b, (sipIter q j).c, (sipIter q j).d⟩ = sipIter q (j + 1) from rfl)
      clear eq9
      subst eq9'
      exact TurnEnd.next F9 N9 (by walk_at "fc led") ⟨⟨q, hq0, hqok, _, _, _, _, _, frame5 rfl rfl rfl rfl (fun n e1 e2 e3 e4 e5 => by simp only [sipMap4, e1, e2, e3, e4, e5, if_false])⟩, rfl⟩
    case xdone =>
      intro m' news9 h9 tk9 hJ F1 N1
      obtain ⟨⟨q, ⟨u0, u1, u2, u3, g0, g1, g2, g3⟩, hqok, u, w0, w1, w2, w3, rfl⟩, rfl⟩ := hJ
      dsimp only
      k_steps
      rename News h₀ L _ _ => kN
      rename Fr h₀ L _ m => kF
      have a0 := (Value.int.inj (Option.some.inj g0)).1
      have a1 := (Value.int.inj (Option.some.inj g1)).1
      have a2 := (Value.int.inj (Option.some.inj g2)).1
      have a3 := (Value.int.inj (Option.some.inj g3)).1
      obtain ⟨qa, qb, qc, qd⟩ := q
      dsimp only at a0 a1 a2 a3
      subst a0 a1 a2 a3
      subst_vars
      exact hret _ _ _ _ kF (cb_drop (news := news') kN (by walk_at "fc led")) ⟨rfl, _, rfl⟩
end
section
set_option maxRecDepth 100000
set_option maxHeartbeats 1500000
local macro_rules | `(tactic| walk_at "fc enter") => `(tactic| k_dflt (first
  | (refine' code_def ?k1 ?k2 ?k3 ?k4 ?k5 ?kA ?kF ?kK ?k6 ?k7 ?k8 ?k9 ?kB ?_ ?c2 ?c3 ?c4 ?c5; (case kA => exact rfl); (case kF => exact rfl); (case kK => first | exact rfl | assumption); (case k1 => k_asm); (case k2 => k_asm); (case k3 => k_asm); (case k4 => k_asm); (case k5 => k_asm); (case k6 => k_is); (case k7 => k_is); (case k8 => ktr_room); (case k9 => first | exact BindsTo.of_eq rfl | exact binds_K (by k_in) rfl (by k_is) rfl rfl rfl); (case c5 => decide); (case kB => exact locs rfl); (case c2 => exact rfl); (case c3 => exact rfl); (case c4 => exact rfl); k_whole; intro g' L' h' FG' F' N' B' X' T'; (try dsimp only); (try k_lift B'); (try k_fold))
  | (refine' code_defC ?k1 ?k2 ?k3 ?k4 ?k5 ?kA ?kF ?kK ?k6 ?k7 ?k8 ?k9 ?kB ?kD ?_ ?c2 ?c3 ?c4; (case kA => exact rfl); (case kF => exact rfl); (case kK => first | exact rfl | assumption); (case k1 => k_asm); (case k2 => k_asm); (case k3 => k_asm); (case k4 => k_asm); (case k5 => k_asm); (case k6 => k_is); (case k7 => k_is); (case k8 => ktr_room); (case k9 => first | exact BindsTo.of_eq rfl | exact binds_K (by k_in) rfl (by k_is) rfl rfl rfl); (case kB => exact rfl); (case kD => decide +kernel); (case c2 => exact rfl); (case c3 => exact rfl); (case c4 => exact rfl); k_whole; intro g' L' h' tk' cells' FG' F' N' Y' B' X' T' l1; (try k_lt l1); k_cells Y'; (try simp only [List.cons_append, List.nil_append] at N'); (try dsimp only); (try k_lift B'); (try k_fold))))
local macro_rules | `(tactic| walk_at "fc enterW") => `(tactic| k_dflt (
  (refine' code_defW ?k1 ?k2 ?k3 ?k4 ?k5 ?kA ?kF ?kK ?k6 ?k7 ?k8 ?k9 ?kB ?_ ?c2 ?c3 ?c4 ?c5; (case kA => exact rfl); (case kF => exact rfl); (case kK => first | exact rfl | assumption); (case k1 => k_asm); (case k2 => k_asm); (case k3 => k_asm); (case k4 => k_asm); (case k5 => k_asm); (case k6 => k_is); (case k7 => k_is); (case k8 => ktr_room); (case k9 => first | exact BindsTo.of_eq rfl | exact binds_K (by k_in) rfl (by k_is) rfl rfl rfl); (case c5 => decide); (case kB => exact locs rfl); (case c2 => exact rfl); (case c3 => exact rfl); (case c4 => exact rfl); k_whole; intro g' L' h' tk' FG' F' N' B' X' T' l1; (try k_lt l1); (try dsimp only); (try k_lift B'))))
local macro_rules | `(tactic| k_all) => `(tactic| exact off_of_lt (by with_reducible assumption))
local macro_rules | `(tactic| k_all) => `(tactic| with_reducible assumption)
local macro_rules | `(tactic| walk_at "fc sub") => `(tactic| (intro p9 h9; simp only [List.mem_cons, List.mem_append] at h9 ⊢; grind))
local macro_rules | `(tactic| walk_at "fc led") => `(tactic| first
  | exact List.forall_mem_nil _
  | (refine' List.forall_mem_cons.mpr ⟨?fa, ?fb⟩; (case fa => k_mem); (case fb => walk_at "fc led"))
  | (intro p9 h9; repeat (first | exact h9 | refine List.Mem.tail _ ?_)))
local macro_rules | `(tactic| walk_at "exec While") => `(tactic| (rename ParkWhile => z9; clear z9; refine Parked.go ?_))
local macro_rules | `(tactic| walk_at "exec Try") => `(tactic| (rename ParkTry => z9; clear z9; refine Parked.go ?_))
local macro_rules | `(tactic| walk_at "exec For") => `(tactic| (rename ParkFor => z9; clear z9; refine Parked.go ?_))
local macro_rules | `(tactic| walk_at "exec For Name Call") => `(tactic| (rename ParkFor => z9; clear z9; refine Parked.go ?_))
local macro_rules | `(tactic| walk_at "exec For Name Call cons nil") => `(tactic| (rename ParkFor => z9; clear z9; refine Parked.go ?_))
local macro_rules | `(tactic| walk_at "exec For Name Name") => `(tactic| (rename ParkFor => z9; clear z9; refine Parked.go ?_))
local macro_rules | `(tactic| walk_at "exec For Name Name cons nil") => `(tactic| (rename ParkFor => z9; clear z9; refine Parked.go ?_))
local macro_rules | `(tactic| walk_at "exec For Name List cons nil") => `(tactic| (rename ParkFor => z9; clear z9; refine Parked.go ?_))
local macro_rules | `(tactic| walk_at "fc pick") => `(tactic| first | k_asm | (rename News _ _ _ _ => z9; exact cb_drop z9 (by walk_at "fc led")))
local macro_rules | `(tactic| walk_at "fc room") => `(tactic| first | omega | ((try simp only [depth_under_make, depth_under_kw, depth_in1, depth_deeper, depth_caller]); (try dsimp only [ktrTop]); omega) | ktr_room)
local macro_rules | `(tactic| walk_at "fc units") => `(tactic| first | omega | (have hcL9 := cLine_is; (try simp only [units_in1, units_deeper, Around.mark_units, units_caller]); (try dsimp only [ktrTop]); omega) | ktr_units)

local macro_rules | `(tactic| walk_at "exec Raise some none") => `(tactic| (k_here; (with_reducible show wpAny _ _ (exec (Stmt.Raise (some (Expr.Call (Expr.Name _ _) (_ :: _) [] _)) none _) _) _ _ _); k_dflt (refine' raise2 ?F ?g ?O ?h ?_ ?a ?b ?c ?d ?e; (case F => k_asm); (case g => exact TopRead.g (by k_asm)); (case O => exact own_of_in (by k_asm) (by k_asm) (by k_is) (by k_exc)); (case h => first | rfl | assumption); (case a => rfl); (case b => rfl); (case c => rfl); (case d => rfl); (case e => decide); k_whole)))
local macro_rules | `(tactic| walk_at "leaving ref") => `(tactic| (k_here; (refine' leave_raiseS ?k1 ?k0 ?k2 ?k3 ?_; (case k0 => assumption); (case k2 => assumption); (case k1 => assumption); (case k3 => k_asm); k_whole; intro h' t' S' R' U'; (try dsimp only at S' R' U' ⊢))))
local macro_rules | `(tactic| walk_at "callWith ref") => `(tactic| (k_here; (with_reducible show wpAny _ _ (callWith _ (Value.ref _) _ (backTo _ (starEach (_ :: _) _)) (backToKw _ (keywordEach (_ :: _) _))) _ _ _); kfb_any; k_dflt (refine' callWithKw ?kfbN ?kfbM ?kfbA ?_; (case kfbN => k_asm); (case kfbM => k_mem); (case kfbA => exact rfl); k_whole)))
local macro_rules | `(tactic| walk_at "call ref") => `(tactic| (k_here; (with_reducible show wpAny _ _ (call (Value.ref _) [Value.bytes _ _] (_ :: _)) _ _ _); kfb_any; k_dflt (first
  | (refine callBig (by k_asm) (by k_mem) (by kba_ints2) (by kba_size) ?_)
  | (refine callLittle (by k_asm) (by k_mem) (by kba_ints2) (by kba_size) ?_)); intro _ _))
local macro_rules | `(tactic| walk_at "subscriptTail") => `(tactic| (k_here; (with_reducible show wpAny _ _ (subscriptTail _ (PySem.Expr.Slice none none (some _) _) (Value.bytes _ _) (Value.ref _)) _ _ _); (with_reducible rename Fr _ _ _ _ => F'); (with_reducible rename News _ _ _ _ => N'); (refine rev_K (s := ⟨_, _, _, _, _⟩) F' N' (by kba_ints) (by kba_size) ?_); intro _ _ _ _ _ kbcK))

theorem sipV_range (k0 k1 : Int) (ks : List Int) : R64 (sipV k0 k1 ks) := by
  unfold sipV sipEnd
  have h := fun q => sipRound_ok q
  exact xor_range (xor_range (xor_range (h _).1 (h _).2.1) (h _).2.2.1) (h _).2.2.2
theorem spec_range {w : World} {mean : ExcName → Option Value} {mg mb : Str → Option Value} {news : List (Addr × Obj)} {k0 k1 n : Int} {t0 t1 tb tn : Tok} {bs : Array UInt8} {ks : List Int} (hks : KBw.bInts bs = ks) (h0 : 0 ≤ k0 ∧ k0 < 2 ^ 64) (h1 : 0 ≤ k1 ∧ k1 < 2 ^ 64) (hz : ks.length ≤ 8) (hn : 0 ≤ n ∧ n < 2 ^ 80) :
    Spec w mean mg mb 199 [.int k0 t0, .int k1 t1, .bytes bs tb, .int n tn] news 60 600 (fun r news' => news = news' ∧ ∃ t', r = .int ((sipV k0 k1 ks * n).fdiv (2 ^ Int.toNat 64)) t') := by
  unfold Spec
  k_fill
  intro dp un gd cn cs a ccd cl outer A₀ base h₀ L m s Q E B F X N T hk hd hu hret
  refine wpAny_call ?_
  walk_at "fc enter"
  k_steps
  refine' spec_use (spec_siphash hks h0 h1 hz) ?k1 ?k2 ?k3 ?k4 ?k5 ?kK ?kd ?ku ?_
  case k1 => k_asm
  case k2 => k_asm
  case k3 => k_asm
  case k4 => walk_at "fc pick"
  case k5 => k_asm
  case kK => first | exact rfl | assumption
  case kd => walk_at "fc room"
  case ku => walk_at "fc units"
  rintro r news' h' tk' F' N' ⟨rfl, t', rfl⟩
  obtain ⟨s0, s1⟩ := sipV_range k0 k1 ks
  obtain ⟨n0, n1⟩ := hn
  k_steps
  rename News h₀ L _ _ => kN
  rename Fr h₀ L _ m => kF
  exact hret _ _ _ _ kF kN ⟨rfl, _, rfl⟩
end
section
local macro_rules | `(tactic| walk_at "fc nil") => `(tactic| fail "none")
set_option maxRecDepth 100000
set_option maxHeartbeats 1500000
local macro_rules | `(tactic| walk_at "fc enter") => `(tactic| k_dflt (first
  | (refine' code_def ?k1 ?k2 ?k3 ?k4 ?k5 ?kA ?kF ?kK ?k6 ?k7 ?k8 ?k9 ?kB ?_ ?c2 ?c3 ?c4 ?c5; (case kA => exact rfl); (case kF => exact rfl); (case kK => first | exact rfl | assumption); (case k1 => k_asm); (case k2 => k_asm); (case k3 => k_asm); (case k4 => k_asm); (case k5 => k_asm); (case k6 => k_is); (case k7 => k_is); (case k8 => ktr_room); (case k9 => first | exact BindsTo.of_eq rfl | exact binds_K (by k_in) rfl (by k_is) rfl rfl rfl); (case c5 => decide); (case kB => exact locs rfl); (case c2 => exact rfl); (case c3 => exact rfl); (case c4 => exact rfl); k_whole; intro g' L' h' FG' F' N' B' X' T'; (try dsimp only); (try k_lift B'); (try k_fold))
  | (refine' code_defC ?k1 ?k2 ?k3 ?k4 ?k5 ?kA ?kF ?kK ?k6 ?k7 ?k8 ?k9 ?kB ?kD ?_ ?c2 ?c3 ?c4; (case kA => exact rfl); (case kF => exact rfl); (case kK => first | exact rfl | assumption); (case k1 => k_asm); (case k2 => k_asm); (case k3 => k_asm); (case k4 => k_asm); (case k5 => k_asm); (case k6 => k_is); (case k7 => k_is); (case k8 => ktr_room); (case k9 => first | exact BindsTo.of_eq rfl | exact binds_K (by k_in) rfl (by k_is) rfl rfl rfl); (case kB => exact rfl); (case kD => decide +kernel); (case c2 => exact rfl); (case c3 => exact rfl); (case c4 => exact rfl); k_whole; intro g' L' h' tk' cells' FG' F' N' Y' B' X' T' l1; (try k_lt l1); k_cells Y'; (try simp only [List.cons_append, List.nil_append] at N'); (try dsimp only); (try k_lift B'); (try k_fold))))
local macro_rules | `(tactic| walk_at "fc enterW") => `(tactic| k_dflt (
  (refine' code_defW ?k1 ?k2 ?k3 ?k4 ?k5 ?kA ?kF ?kK ?k6 ?k7 ?k8 ?k9 ?kB ?_ ?c2 ?c3 ?c4 ?c5; (case kA => exact rfl); (case kF => exact rfl); (case kK => first | exact rfl | assumption); (case k1 => k_asm); (case k2 => k_asm); (case k3 => k_asm); (case k4 => k_asm); (case k5 => k_asm); (case k6 => k_is); (case k7 => k_is); (case k8 => ktr_room); (case k9 => first | exact BindsTo.of_eq rfl | exact binds_K (by k_in) rfl (by k_is) rfl rfl rfl); (case c5 => decide); (case kB => exact locs rfl); (case c2 => exact rfl); (case c3 => exact rfl); (case c4 => exact rfl); k_whole; intro g' L' h' tk' FG' F' N' B' X' T' l1; (try k_lt l1); (try dsimp only); (try k_lift B'))))
local macro_rules | `(tactic| k_all) => `(tactic| exact off_of_lt (by with_reducible assumption))
local macro_rules | `(tactic| k_all) => `(tactic| with_reducible assumption)
local macro_rules | `(tactic| walk_at "fc sub") => `(tactic| (intro p9 h9; simp only [List.mem_cons, List.mem_append] at h9 ⊢; grind))
local macro_rules | `(tactic| walk_at "fc led") => `(tactic| first
  | exact List.forall_mem_nil _
  | (refine' List.forall_mem_cons.mpr ⟨?fa, ?fb⟩; (case fa => k_mem); (case fb => walk_at "fc led"))
  | (intro p9 h9; repeat (first | exact h9 | refine List.Mem.tail _ ?_)))
local macro_rules | `(tactic| walk_at "exec While") => `(tactic| (rename ParkWhile => z9; clear z9; refine Parked.go ?_))
local macro_rules | `(tactic| walk_at "exec Try") => `(tactic| (rename ParkTry => z9; clear z9; refine Parked.go ?_))
local macro_rules | `(tactic| walk_at "exec For") => `(tactic| (rename ParkFor => z9; clear z9; refine Parked.go ?_))
local macro_rules | `(tactic| walk_at "exec For Name Call") => `(tactic| (rename ParkFor => z9; clear z9; refine Parked.go ?_))
local macro_rules | `(tactic| walk_at "exec For Name Call cons nil") => `(tactic| (rename ParkFor => z9; clear z9; refine Parked.go ?_))
local macro_rules | `(tactic| walk_at "exec For Name Name") => `(tactic| (rename ParkFor => z9; clear z9; refine Parked.go ?_))
local macro_rules | `(tactic| walk_at "exec For Name Name cons nil") => `(tactic| (rename ParkFor => z9; clear z9; refine Parked.go ?_))
local macro_rules | `(tactic| walk_at "exec For Name List cons nil") => `(tactic| (rename ParkFor => z9; clear z9; refine Parked.go ?_))
local macro_rules | `(tactic| walk_at "fc pick") => `(tactic| first | k_asm | (rename News _ _ _ _ => z9; exact cb_drop z9 (by walk_at "fc led")))
local macro_rules | `(tactic| walk_at "fc room") => `(tactic| first | omega | ((try simp only [depth_under_make, depth_under_kw, depth_in1, depth_deeper, depth_caller]); (try dsimp only [ktrTop]); omega) | ktr_room)
local macro_rules | `(tactic| walk_at "fc units") => `(tactic| first | omega | (have hcL9 := cLine_is; (try simp only [units_in1, units_deeper, Around.mark_units, units_caller]); (try dsimp only [ktrTop]); omega) | ktr_units)

local macro_rules | `(tactic| walk_at "exec Raise some none") => `(tactic| (k_here; (with_reducible show wpAny _ _ (exec (Stmt.Raise (some (Expr.Call (Expr.Name _ _) (_ :: _) [] _)) none _) _) _ _ _); k_dflt (refine' raise2 ?F ?g ?O ?h ?_ ?a ?b ?c ?d ?e; (case F => k_asm); (case g => exact TopRead.g (by k_asm)); (case O => exact own_of_in (by k_asm) (by k_asm) (by k_is) (by k_exc)); (case h => first | rfl | assumption); (case a => rfl); (case b => rfl); (case c => rfl); (case d => rfl); (case e => decide); k_whole)))
local macro_rules | `(tactic| walk_at "leaving ref") => `(tactic| (k_here; (refine' leave_raiseS ?k1 ?k0 ?k2 ?k3 ?_; (case k0 => assumption); (case k2 => assumption); (case k1 => assumption); (case k3 => k_asm); k_whole; intro h' t' S' R' U'; (try dsimp only at S' R' U' ⊢))))
local macro_rules | `(tactic| walk_at "callWith ref") => `(tactic| (k_here; (with_reducible show wpAny _ _ (callWith _ (Value.ref _) _ (backTo _ (starEach (_ :: _) _)) (backToKw _ (keywordEach (_ :: _) _))) _ _ _); kfb_any; k_dflt (refine' callWithKw ?kfbN ?kfbM ?kfbA ?_; (case kfbN => k_asm); (case kfbM => k_mem); (case kfbA => exact rfl); k_whole)))
local macro_rules | `(tactic| walk_at "call ref") => `(tactic| (k_here; (with_reducible show wpAny _ _ (call (Value.ref _) [Value.bytes _ _] (_ :: _)) _ _ _); kfb_any; k_dflt (first
  | (refine callBig (by k_asm) (by k_mem) (by kba_ints2) (by kba_size) ?_)
  | (refine callLittle (by k_asm) (by k_mem) (by kba_ints2) (by kba_size) ?_)); intro _ _))
local macro_rules | `(tactic| walk_at "subscriptTail") => `(tactic| (k_here; (with_reducible show wpAny _ _ (subscriptTail _ (PySem.Expr.Slice none none (some _) _) (Value.bytes _ _) (Value.ref _)) _ _ _); (with_reducible rename Fr _ _ _ _ => F'); (with_reducible rename News _ _ _ _ => N'); (refine rev_K (s := ⟨_, _, _, _, _⟩) F' N' (by kba_ints) (by kba_size) ?_); intro _ _ _ _ _ kbcK))

theorem getD_octet {ks : List Int} (h : ∀ k ∈ ks, 0 ≤ k ∧ k < 256) (i : Nat) : 0 ≤ ks.getD i 0 ∧ ks.getD i 0 < 256 := by
  by_cases hi : i < ks.length
  · rw [List.getD_eq_getElem?_getD, List.getElem?_eq_getElem hi]
    exact h _ (List.getElem_mem hi)
  · rw [getD_out (by omega)]; decide
theorem part_step {a k : Int} {j : Nat} (h : 0 ≤ a ∧ a < 256 ^ j) (hk : 0 ≤ k ∧ k < 256) : 0 ≤ a + k * 256 ^ j ∧ a + k * 256 ^ j < 256 ^ (j + 1) := by
  have hp : (0 : Int) < 256 ^ j := Int.pow_pos (by decide)
  have h1 : k * 256 ^ j ≤ 255 * 256 ^ j := Int.mul_le_mul_of_nonneg_right (by omega) (by omega)
  have h0 : 0 ≤ k * 256 ^ j := Int.mul_nonneg hk.1 (by omega)
  rw [Int.pow_succ]
  omega
theorem partA_bound {ks : List Int} (h : ∀ k ∈ ks, 0 ≤ k ∧ k < 256) : ∀ j, 0 ≤ partA ks j ∧ partA ks j < 256 ^ j
  | 0 => ⟨Int.le_refl 0, by show (0 : Int) < 1; decide⟩
  | j + 1 => part_step (partA_bound h j) (getD_octet h _)
theorem partB_bound {ks : List Int} (h : ∀ k ∈ ks, 0 ≤ k ∧ k < 256) : ∀ j, 0 ≤ partB ks j ∧ partB ks j < 256 ^ j
  | 0 => ⟨Int.le_refl 0, by show (0 : Int) < 1; decide⟩
  | j + 1 => part_step (partB_bound h j) (getD_octet h _)
theorem keys_bound {ks : List Int} (h : ∀ k ∈ ks, 0 ≤ k ∧ k < 256) (hl : ks.length = 32) : (0 ≤ keyA ks ∧ keyA ks < 2 ^ 64) ∧ (0 ≤ keyB ks ∧ keyB ks < 2 ^ 64) := by
  rw [keyA_eq hl, keyB_eq hl]
  exact ⟨partA_bound h 8, partB_bound h 8⟩
theorem bytes_times {prog : Program} {w : World} {A : Around} {E : Value → Shared → Prop} {s : Shared} {c : UInt8} {n : Int} {t u : Tok} {Q : Value → Shared → Prop} (h0 : 0 ≤ n) (hn : n < 9) (h : ∀ eb t' k, (KBw.bInts eb).length ≤ 8 → Q (.bytes eb t') { s with toks := k }) :
    wpAny (model prog w) A (binaryOp .Mult (.bytes [c].toArray t) (.int n u)) Q E s := by
  refine bytes_mul_any (by simp) (by omega) (by omega) (by simp) fun t7 k7 => h _ t7 k7 ?_
  rw [KBw.ints_length]
  simp
  omega
theorem bytes_times1 {prog : Program} {w : World} {A : Around} {E : Value → Shared → Prop} {s : Shared} {arr : Array UInt8} {n : Int} {t u : Tok} {Q : Value → Shared → Prop} (ha : arr.size = 1) (h0 : 0 ≤ n) (hn : n < 9) (h : ∀ eb t' k, (KBw.bInts eb).length ≤ 8 → Q (.bytes eb t') { s with toks := k }) :
    wpAny (model prog w) A (binaryOp .Mult (.bytes arr t) (.int n u)) Q E s := by
  obtain ⟨l⟩ := arr
  match l, ha with
  | [c], _ => exact bytes_times h0 hn h
theorem bound_range {x : Int} (h0 : 0 ≤ x) (h1 : x < 111111) (k : Nat) : 0 ≤ ([1, 784931, 784931 * (1 + x), 2 ^ Int.toNat 64, 2 ^ Int.toNat 70 + 3] : List Int).getD k 0 ∧ ([1, 784931, 784931 * (1 + x), 2 ^ Int.toNat 64, 2 ^ Int.toNat 70 + 3] : List Int).getD k 0 < 2 ^ 80 := by
  match k with
  | 0 => show (0 : Int) ≤ 1 ∧ (1 : Int) < 2 ^ 80; omega
  | 1 => show (0 : Int) ≤ 784931 ∧ (784931 : Int) < 2 ^ 80; omega
  | 2 => show 0 ≤ 784931 * (1 + x) ∧ 784931 * (1 + x) < 2 ^ 80; omega
  | 3 => show (0 : Int) ≤ 2 ^ 64 ∧ (2 : Int) ^ 64 < 2 ^ 80; omega
  | 4 => show (0 : Int) ≤ 2 ^ 70 + 3 ∧ (2 : Int) ^ 70 + 3 < 2 ^ 80; omega
  | k + 5 => rw [getD_out (by simp)]; decide
end
section
set_option maxRecDepth 100000
set_option maxHeartbeats 1500000
local macro_rules | `(tactic| walk_at "fc enter") => `(tactic| k_dflt (first
  | (refine' code_def ?k1 ?k2 ?k3 ?k4 ?k5 ?kA ?kF ?kK ?k6 ?k7 ?k8 ?k9 ?kB ?_ ?c2 ?c3 ?c4 ?c5; (case kA => exact rfl); (case kF => exact rfl); (case kK => first | exact rfl | assumption); (case k1 => k_asm); (case k2 => k_asm); (case k3 => k_asm); (case k4 => k_asm); (case k5 => k_asm); (case k6 => k_is); (case k7 => k_is); (case k8 => ktr_room); (case k9 => first | exact BindsTo.of_eq rfl | exact binds_K (by k_in) rfl (by k_is) rfl rfl rfl); (case c5 => decide); (case kB => exact locs rfl); (case c2 => exact rfl); (case c3 => exact rfl); (case c4 => exact rfl); k_whole; intro g' L' h' FG' F' N' B' X' T'; (try dsimp only); (try k_lift B'); (try k_fold))
  | (refine' code_defC ?k1 ?k2 ?k3 ?k4 ?k5 ?kA ?kF ?kK ?k6 ?k7 ?k8 ?k9 ?kB ?kD ?_ ?c2 ?c3 ?c4; (case kA => exact rfl); (case kF => exact rfl); (case kK => first | exact rfl | assumption); (case k1 => k_asm); (case k2 => k_asm); (case k3 => k_asm); (case k4 => k_asm); (case k5 => k_asm); (case k6 => k_is); (case k7 => k_is); (case k8 => ktr_room); (case k9 => first | exact BindsTo.of_eq rfl | exact binds_K (by k_in) rfl (by k_is) rfl rfl rfl); (case kB => exact rfl); (case kD => decide +kernel); (case c2 => exact rfl); (case c3 => exact rfl); (case c4 => exact rfl); k_whole; intro g' L' h' tk' cells' FG' F' N' Y' B' X' T' l1; (try k_lt l1); k_cells Y'; (try simp only [List.cons_append, List.nil_append] at N'); (try dsimp only); (try k_lift B'); (try k_fold))))
local macro_rules | `(tactic| walk_at "fc enterW") => `(tactic| k_dflt (
  (refine' code_defW ?k1 ?k2 ?k3 ?k4 ?k5 ?kA ?kF ?kK ?k6 ?k7 ?k8 ?k9 ?kB ?_ ?c2 ?c3 ?c4 ?c5; (case kA => exact rfl); (case kF => exact rfl); (case kK => first | exact rfl | assumption); (case k1 => k_asm); (case k2 => k_asm); (case k3 => k_asm); (case k4 => k_asm); (case k5 => k_asm); (case k6 => k_is); (case k7 => k_is); (case k8 => ktr_room); (case k9 => first | exact BindsTo.of_eq rfl | exact binds_K (by k_in) rfl (by k_is) rfl rfl rfl); (case c5 => decide); (case kB => exact locs rfl); (case c2 => exact rfl); (case c3 => exact rfl); (case c4 => exact rfl); k_whole; intro g' L' h' tk' FG' F' N' B' X' T' l1; (try k_lt l1); (try dsimp only); (try k_lift B'))))
local macro_rules | `(tactic| k_all) => `(tactic| exact off_of_lt (by with_reducible assumption))
local macro_rules | `(tactic| k_all) => `(tactic| with_reducible assumption)
local macro_rules | `(tactic| walk_at "fc sub") => `(tactic| (intro p9 h9; simp only [List.mem_cons, List.mem_append] at h9 ⊢; grind))
local macro_rules | `(tactic| walk_at "fc led") => `(tactic| first
  | exact List.forall_mem_nil _
  | (refine' List.forall_mem_cons.mpr ⟨?fa, ?fb⟩; (case fa => k_mem); (case fb => walk_at "fc led"))
  | (intro p9 h9; repeat (first | exact h9 | refine List.Mem.tail _ ?_)))
local macro_rules | `(tactic| walk_at "exec While") => `(tactic| (rename ParkWhile => z9; clear z9; refine Parked.go ?_))
local macro_rules | `(tactic| walk_at "exec Try") => `(tactic| (rename ParkTry => z9; clear z9; refine Parked.go ?_))
local macro_rules | `(tactic| walk_at "exec For") => `(tactic| (rename ParkFor => z9; clear z9; refine Parked.go ?_))
local macro_rules | `(tactic| walk_at "exec For Name Call") => `(tactic| (rename ParkFor => z9; clear z9; refine Parked.go ?_))
local macro_rules | `(tactic| walk_at "exec For Name Call cons nil") => `(tactic| (rename ParkFor => z9; clear z9; refine Parked.go ?_))
local macro_rules | `(tactic| walk_at "exec For Name Name") => `(tactic| (rename ParkFor => z9; clear z9; refine Parked.go ?_))
local macro_rules | `(tactic| walk_at "exec For Name Name cons nil") => `(tactic| (rename ParkFor => z9; clear z9; refine Parked.go ?_))
local macro_rules | `(tactic| walk_at "exec For Name List cons nil") => `(tactic| (rename ParkFor => z9; clear z9; refine Parked.go ?_))
local macro_rules | `(tactic| walk_at "fc pick") => `(tactic| first | k_asm | (rename News _ _ _ _ => z9; exact cb_drop z9 (by walk_at "fc led")))
local macro_rules | `(tactic| walk_at "fc room") => `(tactic| first | omega | ((try simp only [depth_under_make, depth_under_kw, depth_in1, depth_deeper, depth_caller]); (try dsimp only [ktrTop]); omega) | ktr_room)
local macro_rules | `(tactic| walk_at "fc units") => `(tactic| first | omega | (have hcL9 := cLine_is; (try simp only [units_in1, units_deeper, Around.mark_units, units_caller]); (try dsimp only [ktrTop]); omega) | ktr_units)

local macro_rules | `(tactic| walk_at "exec Raise some none") => `(tactic| (k_here; (with_reducible show wpAny _ _ (exec (Stmt.Raise (some (Expr.Call (Expr.Name _ _) (_ :: _) [] _)) none _) _) _ _ _); k_dflt (refine' raise2 ?F ?g ?O ?h ?_ ?a ?b ?c ?d ?e; (case F => k_asm); (case g => exact TopRead.g (by k_asm)); (case O => exact own_of_in (by k_asm) (by k_asm) (by k_is) (by k_exc)); (case h => first | rfl | assumption); (case a => rfl); (case b => rfl); (case c => rfl); (case d => rfl); (case e => decide); k_whole)))
local macro_rules | `(tactic| walk_at "leaving ref") => `(tactic| (k_here; (refine' leave_raiseS ?k1 ?k0 ?k2 ?k3 ?_; (case k0 => assumption); (case k2 => assumption); (case k1 => assumption); (case k3 => k_asm); k_whole; intro h' t' S' R' U'; (try dsimp only at S' R' U' ⊢))))
local macro_rules | `(tactic| walk_at "callWith ref") => `(tactic| (k_here; (with_reducible show wpAny _ _ (callWith _ (Value.ref _) _ (backTo _ (starEach (_ :: _) _)) (backToKw _ (keywordEach (_ :: _) _))) _ _ _); kfb_any; k_dflt (refine' callWithKw ?kfbN ?kfbM ?kfbA ?_; (case kfbN => k_asm); (case kfbM => k_mem); (case kfbA => exact rfl); k_whole)))
local macro_rules | `(tactic| walk_at "call ref") => `(tactic| (k_here; (with_reducible show wpAny _ _ (call (Value.ref _) [Value.bytes _ _] (_ :: _)) _ _ _); kfb_any; k_dflt (first
  | (refine callBig (by k_asm) (by k_mem) (by kba_ints2) (by kba_size) ?_)
  | (refine callLittle (by k_asm) (by k_mem) (by kba_ints2) (by kba_size) ?_)); intro _ _))
local macro_rules | `(tactic| walk_at "subscriptTail") => `(tactic| (k_here; (with_reducible show wpAny _ _ (subscriptTail _ (PySem.Expr.Slice none none (some _) _) (Value.bytes _ _) (Value.ref _)) _ _ _); (with_reducible rename Fr _ _ _ _ => F'); (with_reducible rename News _ _ _ _ => N'); (refine rev_K (s := ⟨_, _, _, _, _⟩) F' N' (by kba_ints) (by kba_size) ?_); intro _ _ _ _ _ kbcK))

local macro_rules | `(tactic| walk_at "binaryOp Mult bytes int") => `(tactic| (rename ParkFor => z9; clear z9; refine Parked.go ?_))
local macro_rules | `(tactic| walk_at "binaryOp Pow int int") => `(tactic| (k_here; (with_reducible refine pow_int_small ?kb1 ?kb2 ?kb3 ?_); (case kb1 => decide); (case kb2 => decide); (case kb3 => decide)))
theorem spec_lawRanges {w : World} {mean : ExcName → Option Value} {mg mb : Str → Option Value} {news : List (Addr × Obj)} {n c : Int} {tn tc : Tok} (hn : 0 ≤ n) (hc : 0 ≤ c) :
    Spec w mean mg mb 272 [.int n tn, .int c tc] news 90 900 (fun r news' => r = .bool true ∧ news' = news) := by
  have q0 : 0 ≤ (c.fdiv 256).fmod 9 := by rw [Int.fmod_eq_emod_of_nonneg _ (by decide)]; omega
  have q1 : (c.fdiv 256).fmod 9 < 9 := by rw [Int.fmod_eq_emod_of_nonneg _ (by decide)]; omega
  have b0 : 0 ≤ c.fmod 256 := by rw [Int.fmod_eq_emod_of_nonneg _ (by decide)]; omega
  have b1 : c.fmod 256 < 256 := by rw [Int.fmod_eq_emod_of_nonneg _ (by decide)]; omega
  unfold Spec
  k_fill
  intro dp un gd cn cs a ccd cl outer A₀ base h₀ L m s Q E B F X N T hk hd hu hret
  refine wpAny_call ?_
  walk_at "fc enter"
  k_steps
  rename IntsAre _ (List.map _ (rangeKs _ _)) => hI
  have hl : (List.map (fun k' => (n.fdiv 3 + 7 * k').fmod 256) (rangeKs 0 (32 - 0 : Int).toNat)).length = 32 := by rw [List.length_map, rangeKs_length]; rfl
  have hr : ∀ k ∈ List.map (fun k' => (n.fdiv 3 + 7 * k').fmod 256) (rangeKs 0 (32 - 0 : Int).toNat), 0 ≤ k ∧ k < 256 := by
    intro k hk
    obtain ⟨i, _, rfl⟩ := List.mem_map.mp hk
    rw [Int.fmod_eq_emod_of_nonneg _ (by decide)]
    omega
  generalize List.map (fun k' => (n.fdiv 3 + 7 * k').fmod 256) (rangeKs 0 (32 - 0 : Int).toNat) = ks at *
  refine' spec_use (spec_keyParts (ks := ks) (KBa.ints_make hr) hl) ?k1 ?k2 ?k3 ?k4 ?k5 ?kK ?kd ?ku ?_
  case k1 => k_asm
  case k2 => k_asm
  case k3 => k_asm
  case k4 => walk_at "fc pick"
  case k5 => k_asm
  case kK => first | exact rfl | assumption
  case kd => walk_at "fc room"
  case ku => walk_at "fc units"
  rintro r news' h' tk' F' N' ⟨D9, t8, t9, rfl, hl9, rfl⟩
  have parkF : ParkFor := trivial
  k_steps
  refine' spec_use (spec_keyFrom (ks := ks) (KBa.ints_make hr) hl) ?k1 ?k2 ?k3 ?k4 ?k5 ?kK ?kd ?ku ?_
  case k1 => k_asm
  case k2 => k_asm
  case k3 => k_asm
  case k4 => walk_at "fc pick"
  case k5 => k_asm
  case kK => first | exact rfl | assumption
  case kd => walk_at "fc room"
  case ku => walk_at "fc units"
  rintro r news' h' tk' F' N' ⟨D8, u8, u9, rfl, hl8, rfl⟩
  k_steps
  refine bytes_times1 rfl q0 q1 ?_
  intro eb t7 k7 hel
  have x0 : 0 ≤ c.fmod 111111 := by rw [Int.fmod_eq_emod_of_nonneg _ (by decide)]; omega
  have x1 : c.fmod 111111 < 111111 := by rw [Int.fmod_eq_emod_of_nonneg _ (by decide)]; omega
  have i0 : 0 ≤ (c.fdiv 2304).fmod 5 := by rw [Int.fmod_eq_emod_of_nonneg _ (by decide)]; omega
  have i1 : (c.fdiv 2304).fmod 5 < 5 := by rw [Int.fmod_eq_emod_of_nonneg _ (by decide)]; omega
  obtain ⟨ka, kb⟩ := keys_bound hr hl
  have hbd := bound_range x0 x1 ((c.fdiv 2304).fmod 5).toNat
  k_steps
  refine' spec_use (spec_range (ks := KBw.bInts eb) rfl ka kb hel hbd) ?k1 ?k2 ?k3 ?k4 ?k5 ?kK ?kd ?ku ?_
  case k1 => k_asm
  case k2 => k_asm
  case k3 => k_asm
  case k4 => walk_at "fc pick"
  case k5 => k_asm
  case kK => first | exact rfl | assumption
  case kd => walk_at "fc room"
  case ku => walk_at "fc units"
  rintro r news' h' tk' F' N' ⟨rfl, t', rfl⟩
  k_steps
  refine' spec_use (spec_siphash (ks := KBw.bInts eb) rfl ka kb hel) ?k1 ?k2 ?k3 ?k4 ?k5 ?kK ?kd ?ku ?_
  case k1 => k_asm
  case k2 => k_asm
  case k3 => k_asm
  case k4 => walk_at "fc pick"
  case k5 => k_asm
  case kK => first | exact rfl | assumption
  case kd => walk_at "fc room"
  case ku => walk_at "fc units"
  rintro r news' h' tk' F' N' ⟨rfl, t', rfl⟩
  obtain ⟨s0, s1⟩ := sipV_range (keyA ks) (keyB ks) (KBw.bInts eb)
  k_steps
  rename News h₀ L _ _ => kN
  rename Fr h₀ L _ m => kF
  exact hret _ _ _ _ kF (cb_drop (news := news) kN (by walk_at "fc led")) ⟨by rw [beq_self_eq_true], rfl⟩
end
section
set_option maxRecDepth 100000
set_option maxHeartbeats 1500000
local macro_rules | `(tactic| walk_at "fc enter") => `(tactic| k_dflt (first
  | (refine' code_def ?k1 ?k2 ?k3 ?k4 ?k5 ?kA ?kF ?kK ?k6 ?k7 ?k8 ?k9 ?kB ?_ ?c2 ?c3 ?c4 ?c5; (case kA => exact rfl); (case kF => exact rfl); (case kK => first | exact rfl | assumption); (case k1 => k_asm); (case k2 => k_asm); (case k3 => k_asm); (case k4 => k_asm); (case k5 => k_asm); (case k6 => k_is); (case k7 => k_is); (case k8 => ktr_room); (case k9 => first | exact BindsTo.of_eq rfl | exact binds_K (by k_in) rfl (by k_is) rfl rfl rfl); (case c5 => decide); (case kB => exact locs rfl); (case c2 => exact rfl); (case c3 => exact rfl); (case c4 => exact rfl); k_whole; intro g' L' h' FG' F' N' B' X' T'; (try dsimp only); (try k_lift B'); (try k_fold))
  | (refine' code_defC ?k1 ?k2 ?k3 ?k4 ?k5 ?kA ?kF ?kK ?k6 ?k7 ?k8 ?k9 ?kB ?kD ?_ ?c2 ?c3 ?c4; (case kA => exact rfl); (case kF => exact rfl); (case kK => first | exact rfl | assumption); (case k1 => k_asm); (case k2 => k_asm); (case k3 => k_asm); (case k4 => k_asm); (case k5 => k_asm); (case k6 => k_is); (case k7 => k_is); (case k8 => ktr_room); (case k9 => first | exact BindsTo.of_eq rfl | exact binds_K (by k_in) rfl (by k_is) rfl rfl rfl); (case kB => exact rfl); (case kD => decide +kernel); (case c2 => exact rfl); (case c3 => exact rfl); (case c4 => exact rfl); k_whole; intro g' L' h' tk' cells' FG' F' N' Y' B' X' T' l1; (try k_lt l1); k_cells Y'; (try simp only [List.cons_append, List.nil_append] at N'); (try dsimp only); (try k_lift B'); (try k_fold))))
local macro_rules | `(tactic| walk_at "fc enterW") => `(tactic| k_dflt (
  (refine' code_defW ?k1 ?k2 ?k3 ?k4 ?k5 ?kA ?kF ?kK ?k6 ?k7 ?k8 ?k9 ?kB ?_ ?c2 ?c3 ?c4 ?c5; (case kA => exact rfl); (case kF => exact rfl); (case kK => first | exact rfl | assumption); (case k1 => k_asm); (case k2 => k_asm); (case k3 => k_asm); (case k4 => k_asm); (case k5 => k_asm); (case k6 => k_is); (case k7 => k_is); (case k8 => ktr_room); (case k9 => first | exact BindsTo.of_eq rfl | exact binds_K (by k_in) rfl (by k_is) rfl rfl rfl); (case c5 => decide); (case kB => exact locs rfl); (case c2 => exact rfl); (case c3 => exact rfl); (case c4 => exact rfl); k_whole; intro g' L' h' tk' FG' F' N' B' X' T' l1; (try k_lt l1); (try dsimp only); (try k_lift B'))))
local macro_rules | `(tactic| k_all) => `(tactic| exact off_of_lt (by with_reducible assumption))
local macro_rules | `(tactic| k_all) => `(tactic| with_reducible assumption)
local macro_rules | `(tactic| walk_at "fc sub") => `(tactic| (intro p9 h9; simp only [List.mem_cons, List.mem_append] at h9 ⊢; grind))
local macro_rules | `(tactic| walk_at "fc led") => `(tactic| first
  | exact List.forall_mem_nil _
  | (refine' List.forall_mem_cons.mpr ⟨?fa, ?fb⟩; (case fa => k_mem); (case fb => walk_at "fc led"))
  | (intro p9 h9; repeat (first | exact h9 | refine List.Mem.tail _ ?_)))
local macro_rules | `(tactic| walk_at "exec While") => `(tactic| (rename ParkWhile => z9; clear z9; refine Parked.go ?_))
local macro_rules | `(tactic| walk_at "exec Try") => `(tactic| (rename ParkTry => z9; clear z9; refine Parked.go ?_))
local macro_rules | `(tactic| walk_at "exec For") => `(tactic| (rename ParkFor => z9; clear z9; refine Parked.go ?_))
local macro_rules | `(tactic| walk_at "exec For Name Call") => `(tactic| (rename ParkFor => z9; clear z9; refine Parked.go ?_))
local macro_rules | `(tactic| walk_at "exec For Name Call cons nil") => `(tactic| (rename ParkFor => z9; clear z9; refine Parked.go ?_))
local macro_rules | `(tactic| walk_at "exec For Name Name") => `(tactic| (rename ParkFor => z9; clear z9; refine Parked.go ?_))
local macro_rules | `(tactic| walk_at "exec For Name Name cons nil") => `(tactic| (rename ParkFor => z9; clear z9; refine Parked.go ?_))
local macro_rules | `(tactic| walk_at "exec For Name List cons nil") => `(tactic| (rename ParkFor => z9; clear z9; refine Parked.go ?_))
local macro_rules | `(tactic| walk_at "fc pick") => `(tactic| first | k_asm | (rename News _ _ _ _ => z9; exact cb_drop z9 (by walk_at "fc led")))
local macro_rules | `(tactic| walk_at "fc room") => `(tactic| first | omega | ((try simp only [depth_under_make, depth_under_kw, depth_in1, depth_deeper, depth_caller]); (try dsimp only [ktrTop]); omega) | ktr_room)
local macro_rules | `(tactic| walk_at "fc units") => `(tactic| first | omega | (have hcL9 := cLine_is; (try simp only [units_in1, units_deeper, Around.mark_units, units_caller]); (try dsimp only [ktrTop]); omega) | ktr_units)

local macro_rules | `(tactic| walk_at "exec Raise some none") => `(tactic| (k_here; (with_reducible show wpAny _ _ (exec (Stmt.Raise (some (Expr.Call (Expr.Name _ _) (_ :: _) [] _)) none _) _) _ _ _); k_dflt (refine' raise2 ?F ?g ?O ?h ?_ ?a ?b ?c ?d ?e; (case F => k_asm); (case g => exact TopRead.g (by k_asm)); (case O => exact own_of_in (by k_asm) (by k_asm) (by k_is) (by k_exc)); (case h => first | rfl | assumption); (case a => rfl); (case b => rfl); (case c => rfl); (case d => rfl); (case e => decide); k_whole)))
local macro_rules | `(tactic| walk_at "leaving ref") => `(tactic| (k_here; (refine' leave_raiseS ?k1 ?k0 ?k2 ?k3 ?_; (case k0 => assumption); (case k2 => assumption); (case k1 => assumption); (case k3 => k_asm); k_whole; intro h' t' S' R' U'; (try dsimp only at S' R' U' ⊢))))
local macro_rules | `(tactic| walk_at "callWith ref") => `(tactic| (k_here; (with_reducible show wpAny _ _ (callWith _ (Value.ref _) _ (backTo _ (starEach (_ :: _) _)) (backToKw _ (keywordEach (_ :: _) _))) _ _ _); kfb_any; k_dflt (refine' callWithKw ?kfbN ?kfbM ?kfbA ?_; (case kfbN => k_asm); (case kfbM => k_mem); (case kfbA => exact rfl); k_whole)))
local macro_rules | `(tactic| walk_at "call ref") => `(tactic| (k_here; (with_reducible show wpAny _ _ (call (Value.ref _) [Value.bytes _ _] (_ :: _)) _ _ _); kfb_any; k_dflt (first
  | (refine callBig (by k_asm) (by k_mem) (by kba_ints2) (by kba_size) ?_)
  | (refine callLittle (by k_asm) (by k_mem) (by kba_ints2) (by kba_size) ?_)); intro _ _))
local macro_rules | `(tactic| walk_at "subscriptTail") => `(tactic| (k_here; (with_reducible show wpAny _ _ (subscriptTail _ (PySem.Expr.Slice none none (some _) _) (Value.bytes _ _) (Value.ref _)) _ _ _); (with_reducible rename Fr _ _ _ _ => F'); (with_reducible rename News _ _ _ _ => N'); (refine rev_K (s := ⟨_, _, _, _, _⟩) F' N' (by kba_ints) (by kba_size) ?_); intro _ _ _ _ _ kbcK))

/-- the same where no raise can come; the caller may have cells -/
theorem spec_decodeOk {w : World} {mean : ExcName → Option Value} {mg mb : Str → Option Value} {news : List (Addr × Obj)} {x dx : Addr} {h1 h2 h3 : Int} {k1 k2 k3 tb tn tp tc : Tok} {bs : Array UInt8} {bits : List Int} {p c j0 : Nat} (hxd : @Ne Nat x dx) (offd : ∀ p ∈ news, p.1 ≠ dx)
    (hbs : KBw.bInts bs = octs bits) (hb : IsBits bits) (h8 : bits.length % 8 = 0) (hz : bits.length < 100000) (hp : p ≤ bits.length) (hc : c < 100) (g0 : OnesAt bits p j0) (g1 : bits[p + j0]? = some 0) (g2 : p + j0 + 1 + c ≤ bits.length) :
    Spec w mean mg mb 185 [.ref x, .int (c : Int) tc] ((x, instObj 167 dx) :: (dx, rDict h1 h2 h3 k1 k2 k3 bs tb (bits.length : Int) tn (p : Int) tp) :: news) 30 300
      (fun r news' => ∃ t tp', r = .int ((j0 : Int) * 2 ^ c + num ((bits.drop (p + j0 + 1)).take c)) t ∧
        news' = (x, instObj 167 dx) :: (dx, rDict h1 h2 h3 k1 k2 k3 bs tb (bits.length : Int) tn ((p + j0 + 1 + c : Nat) : Int) tp') :: news) := by
  unfold Spec
  k_fill
  intro dp un gd cn cs a ccd cl outer A₀ base h₀ L m s Q E B F X N T hk hd hu hret
  refine wpAny_call ?_
  walk_at "fc enter"
  have parkW : ParkWhile := trivial
  k_steps
  refine whileM (L := _) (n₀ := bits.length - p) (fun m₀ n m' news' => (∃ j t, m' = (fun y => if y = Str.ofString "quotient" then some (.int ((j : Nat) : Int) t) else m₀ y) ∧ n = bits.length - (p + j) ∧ OnesAt bits p j ∧
    ∃ tp', news' = (x, instObj 167 dx) :: (dx, rDict h1 h2 h3 k1 k2 k3 bs tb (bits.length : Int) tn ((p + j : Nat) : Int) tp') :: news)) (by k_asm) (by k_asm) ⟨0, _, frame1 rfl fun _ _ => rfl, rfl, ⟨by omega, fun i hi => absurd hi (by omega)⟩, tp, rfl⟩ ?_
  rintro n m₁ news₁ h₁ tk₁ F₁ N₁ ⟨j, t, rfl, rfl, hj, tp', rfl⟩
  k_steps
  have hpj := hj.1
  refine' specR_use (spec_read (p := p + j) (c := 1) hxd offd hbs hb h8 hz hpj (by omega)) ?k1 ?k2 ?k3 ?k4 ?k5 ?kK ?kd ?ku ?_ ?_
  case k1 => k_asm
  case k2 => k_asm
  case k3 => k_asm
  case k4 => walk_at "fc pick"
  case k5 => k_asm
  case kK => first | exact rfl | assumption
  case kd => walk_at "fc room"
  case ku => walk_at "fc units"
  · rintro r news' h' tk' F' N' ⟨hle, t2, tp2, rfl, rfl⟩
    obtain ⟨b, hbj, hbb⟩ : ∃ b, bits[p + j]? = some b ∧ (b = 0 ∨ b = 1) := ⟨bits[p + j]'(by omega), List.getElem?_eq_getElem (by omega), hb _ (List.getElem_mem _)⟩
    have hone : (bits.drop (p + j)).take 1 = [b] := take_one hbj
    rw [hone]
    have hnum : num [b] = b := by simp [num]
    rw [hnum]
    rcases hbb with rfl | rfl
    · k_steps
      refine' specR_use (spec_read (p := p + j + 1) (c := c) hxd offd hbs hb h8 hz hle (by omega)) ?k1 ?k2 ?k3 ?k4 ?k5 ?kK ?kd ?ku ?_ ?_
      case k1 => k_asm
      case k2 => k_asm
      case k3 => k_asm
      case k4 => walk_at "fc pick"
      case k5 => k_asm
      case kK => first | exact rfl | assumption
      case kd => walk_at "fc room"
      case ku => walk_at "fc units"
      · rintro r news' h' tk' F' N' ⟨hle2, t3, tp3, rfl, rfl⟩
        k_steps
        rename News h₀ L _ _ => kN
        rename Fr h₀ L _ m => kF
        rw [Int.toNat_natCast]
        obtain rfl : j = j0 := ones_unique hj hbj g0 g1
        exact hret _ _ _ _ kF kN ⟨_, _, rfl, rfl⟩
      · intro G e t' vs h' tk' news' FG S U hr
        obtain ⟨hlt, rfl⟩ := hr
        exfalso
        obtain rfl : j = j0 := ones_unique hj hbj g0 g1
        omega
    · k_steps
      rename Fr _ _ _ _ => F9
      rename News _ _ _ _ => N9
      refine WhileStep.intro (n' := bits.length - (p + (j + 1))) F9 N9 (by omega) ⟨j + 1, _, frame1 (congrArg (fun z => some (Value.int z _)) (show (j : Int) + 1 = ((j + 1 : Nat) : Int) by omega)) (fun n e => by simp only [e, if_false]), rfl, ⟨by omega, fun i hi => ?_⟩, _, rfl⟩
      by_cases hij : i = j
      · rw [hij]; exact hbj
      · exact hj.2 i (by omega)
  · intro G e t' vs h' tk' news' FG S U hr
    obtain ⟨hlt, rfl⟩ := hr
    exfalso
    have hle0 : j ≤ j0 := by
      rcases Nat.lt_or_ge j0 j with h | h
      · have h9 := hj.2 j0 h
        rw [g1] at h9
        cases h9
      · exact h
    omega
end
section
set_option maxRecDepth 100000
theorem held_plain {v : Int} {n : Nat} (hv : 0 ≤ v) :
    OnesAt (List.replicate (v.fdiv (2 ^ Int.toNat 19)).toNat 1 ++ [0] ++ bitsOf v 19 ++ List.replicate n 0) 0 (v.fdiv (2 ^ Int.toNat 19)).toNat ∧
    (List.replicate (v.fdiv (2 ^ Int.toNat 19)).toNat 1 ++ [0] ++ bitsOf v 19 ++ List.replicate n 0)[0 + (v.fdiv (2 ^ Int.toNat 19)).toNat]? = some 0 ∧
    0 + (v.fdiv (2 ^ Int.toNat 19)).toNat + 1 + 19 ≤ (List.replicate (v.fdiv (2 ^ Int.toNat 19)).toNat 1 ++ [0] ++ bitsOf v 19 ++ List.replicate n 0).length ∧
    ((v.fdiv (2 ^ Int.toNat 19)).toNat : Int) * 2 ^ 19 + num (((List.replicate (v.fdiv (2 ^ Int.toNat 19)).toNat 1 ++ [0] ++ bitsOf v 19 ++ List.replicate n 0).drop (0 + (v.fdiv (2 ^ Int.toNat 19)).toNat + 1)).take 19) = v := by
  have h0 : 0 ≤ v.fdiv (2 ^ Int.toNat 19) := by
    rw [Int.fdiv_eq_ediv_of_nonneg _ (by decide)]
    exact Int.ediv_nonneg hv (by decide)
  have hq : ((v.fdiv (2 ^ Int.toNat 19)).toNat : Int) = v.fdiv (2 ^ Int.toNat 19) := Int.toNat_of_nonneg h0
  have hl : (bitsOf v 19).length = 19 := by rw [bitsOf_length]; rfl
  generalize hqq : (v.fdiv (2 ^ Int.toNat 19)).toNat = q at *
  have hlen : (List.replicate q (1 : Int) ++ [0]).length = q + 1 := by simp
  refine ⟨⟨?_, ?_⟩, ?_, ?_, ?_⟩
  · simp [hl]
  · intro i hi
    rw [Nat.zero_add, List.append_assoc, List.append_assoc, List.getElem?_append_left (by simp; omega), List.getElem?_replicate_of_lt hi]
  · rw [Nat.zero_add, List.append_assoc, List.getElem?_append_left (by simp), List.getElem?_append_right (by simp)]
    simp
  · simp [hl]; omega
  · rw [Nat.zero_add, List.append_assoc, List.drop_append_of_le_length (by rw [hlen]; omega), ← hlen, List.drop_length, List.nil_append, List.take_append_of_le_length (by rw [hl]; omega), List.take_of_length_le (by rw [hl]; omega), num_bitsOf v 19 (by decide), hq, Int.fdiv_eq_ediv_of_nonneg _ (by decide)]
    show v / 2 ^ 19 * 2 ^ 19 + v % 2 ^ 19 = v
    omega
theorem held_bound {v : Int} (h0 : 0 ≤ v) (h1 : v < 2 ^ 23) : 0 ≤ v.fdiv (2 ^ Int.toNat 19) ∧ v.fdiv (2 ^ Int.toNat 19) < 30 := by
  rw [Int.fdiv_eq_ediv_of_nonneg _ (by decide)]
  show 0 ≤ v / 524288 ∧ v / 524288 < 30
  omega
theorem held_range (x : Int) : 0 ≤ x.fmod (2 ^ Int.toNat 23) ∧ x.fmod (2 ^ Int.toNat 23) < 2 ^ 23 := by
  rw [Int.fmod_eq_emod_of_nonneg _ (by decide)]
  show 0 ≤ x % 8388608 ∧ x % 8388608 < 8388608
  omega
end
section
set_option maxRecDepth 100000
set_option maxHeartbeats 2500000
local macro_rules | `(tactic| walk_at "fc enter") => `(tactic| k_dflt (first
  | (refine' code_def ?k1 ?k2 ?k3 ?k4 ?k5 ?kA ?kF ?kK ?k6 ?k7 ?k8 ?k9 ?kB ?_ ?c2 ?c3 ?c4 ?c5; (case kA => exact rfl); (case kF => exact rfl); (case kK => first | exact rfl | assumption); (case k1 => k_asm); (case k2 => k_asm); (case k3 => k_asm); (case k4 => k_asm); (case k5 => k_asm); (case k6 => k_is); (case k7 => k_is); (case k8 => ktr_room); (case k9 => first | exact BindsTo.of_eq rfl | exact binds_K (by k_in) rfl (by k_is) rfl rfl rfl); (case c5 => decide); (case kB => exact locs rfl); (case c2 => exact rfl); (case c3 => exact rfl); (case c4 => exact rfl); k_whole; intro g' L' h' FG' F' N' B' X' T'; (try dsimp only); (try k_lift B'); (try k_fold))
  | (refine' code_defC ?k1 ?k2 ?k3 ?k4 ?k5 ?kA ?kF ?kK ?k6 ?k7 ?k8 ?k9 ?kB ?kD ?_ ?c2 ?c3 ?c4; (case kA => exact rfl); (case kF => exact rfl); (case kK => first | exact rfl | assumption); (case k1 => k_asm); (case k2 => k_asm); (case k3 => k_asm); (case k4 => k_asm); (case k5 => k_asm); (case k6 => k_is); (case k7 => k_is); (case k8 => ktr_room); (case k9 => first | exact BindsTo.of_eq rfl | exact binds_K (by k_in) rfl (by k_is) rfl rfl rfl); (case kB => exact rfl); (case kD => decide +kernel); (case c2 => exact rfl); (case c3 => exact rfl); (case c4 => exact rfl); k_whole; intro g' L' h' tk' cells' FG' F' N' Y' B' X' T' l1; (try k_lt l1); k_cells Y'; (try simp only [List.cons_append, List.nil_append] at N'); (try dsimp only); (try k_lift B'); (try k_fold))))
local macro_rules | `(tactic| walk_at "fc enterW") => `(tactic| k_dflt (
  (refine' code_defW ?k1 ?k2 ?k3 ?k4 ?k5 ?kA ?kF ?kK ?k6 ?k7 ?k8 ?k9 ?kB ?_ ?c2 ?c3 ?c4 ?c5; (case kA => exact rfl); (case kF => exact rfl); (case kK => first | exact rfl | assumption); (case k1 => k_asm); (case k2 => k_asm); (case k3 => k_asm); (case k4 => k_asm); (case k5 => k_asm); (case k6 => k_is); (case k7 => k_is); (case k8 => ktr_room); (case k9 => first | exact BindsTo.of_eq rfl | exact binds_K (by k_in) rfl (by k_is) rfl rfl rfl); (case c5 => decide); (case kB => exact locs rfl); (case c2 => exact rfl); (case c3 => exact rfl); (case c4 => exact rfl); k_whole; intro g' L' h' tk' FG' F' N' B' X' T' l1; (try k_lt l1); (try dsimp only); (try k_lift B'))))
local macro_rules | `(tactic| k_all) => `(tactic| exact off_of_lt (by with_reducible assumption))
local macro_rules | `(tactic| k_all) => `(tactic| with_reducible assumption)
local macro_rules | `(tactic| walk_at "fc sub") => `(tactic| (intro p9 h9; simp only [List.mem_cons, List.mem_append] at h9 ⊢; grind))
local macro_rules | `(tactic| walk_at "fc led") => `(tactic| first
  | exact List.forall_mem_nil _
  | (refine' List.forall_mem_cons.mpr ⟨?fa, ?fb⟩; (case fa => k_mem); (case fb => walk_at "fc led"))
  | (intro p9 h9; repeat (first | exact h9 | refine List.Mem.tail _ ?_)))
local macro_rules | `(tactic| walk_at "exec While") => `(tactic| (rename ParkWhile => z9; clear z9; refine Parked.go ?_))
local macro_rules | `(tactic| walk_at "exec Try") => `(tactic| (rename ParkTry => z9; clear z9; refine Parked.go ?_))
local macro_rules | `(tactic| walk_at "exec For") => `(tactic| (rename ParkFor => z9; clear z9; refine Parked.go ?_))
local macro_rules | `(tactic| walk_at "exec For Name Call") => `(tactic| (rename ParkFor => z9; clear z9; refine Parked.go ?_))
local macro_rules | `(tactic| walk_at "exec For Name Call cons nil") => `(tactic| (rename ParkFor => z9; clear z9; refine Parked.go ?_))
local macro_rules | `(tactic| walk_at "exec For Name Name") => `(tactic| (rename ParkFor => z9; clear z9; refine Parked.go ?_))
local macro_rules | `(tactic| walk_at "exec For Name Name cons nil") => `(tactic| (rename ParkFor => z9; clear z9; refine Parked.go ?_))
local macro_rules | `(tactic| walk_at "exec For Name List cons nil") => `(tactic| (rename ParkFor => z9; clear z9; refine Parked.go ?_))
local macro_rules | `(tactic| walk_at "fc pick") => `(tactic| first | k_asm | (rename News _ _ _ _ => z9; exact cb_drop z9 (by walk_at "fc led")))
local macro_rules | `(tactic| walk_at "fc room") => `(tactic| first | omega | ((try simp only [depth_under_make, depth_under_kw, depth_in1, depth_deeper, depth_caller]); (try dsimp only [ktrTop]); omega) | ktr_room)
local macro_rules | `(tactic| walk_at "fc units") => `(tactic| first | omega | (have hcL9 := cLine_is; (try simp only [units_in1, units_deeper, Around.mark_units, units_caller]); (try dsimp only [ktrTop]); omega) | ktr_units)

def ParkCall : Prop := True
local macro_rules | `(tactic| walk_at "call ref") => `(tactic| (rename ParkCall => z9; clear z9; refine Parked.go ?_))
theorem enter_callC {M : Model} {A : Around} {s : Shared} {f : Value} {pos : List Value} {kw : List (Str × Value)} {c : ClaimW} {cl : Str → Option Addr} {mean : ExcName → Option Value} {args : List WData} {s₁ : Shared}
    (h : codeC M A (.call f ⟨pos, kw⟩) (GoodW c cl mean args s₁) s) : wpC M A (PySem.call f pos kw) (fun v s' => GoodWG c cl mean args s₁ (.ok (.ret v)) s') (fun e s' => GoodWG c cl mean args s₁ (.error e) s') s :=
  wpC_call (codeC_mono h fun res s' g => by have g' := GoodW.toG g; rcases g'.1 with ⟨v, _, _, rfl, _⟩ | ⟨e, _, _, rfl, _⟩ <;> exact g')
theorem triv_G {c : ClaimW} {cl : Str → Option Addr} {mean : ExcName → Option Value} {args : List WData} {s₁ : Shared} (hg : s₁.gens = #[]) (hn : ∀ cls, c.raises args cls = false) (hp : c.post args (.bool true) args = true) :
    GoodWG c cl mean args s₁ (.ok (.ret (.bool true))) s₁ := GoodW.toG ⟨.inl ⟨_, _, [], rfl, hn, ReadsW.bool true, hp, fun _ => ⟨List.nodup_nil, fun _ hm => (nomatch hm)⟩⟩, fun _ _ e => e, rfl, hg⟩
theorem sep_same {I : Addr} {news news' : List (Addr × Obj)} (h : ∀ p ∈ news, p.1 < I) (e : news'.map Prod.fst = news.map Prod.fst) : ∀ p ∈ news', p.1 ≠ I := by
  intro p hp
  have h1 : p.1 ∈ news.map Prod.fst := e ▸ List.mem_map_of_mem hp
  obtain ⟨q, hq, hq2⟩ := List.mem_map.mp h1
  rw [← hq2]
  exact Nat.ne_of_lt (h q hq)
theorem getD_nonneg {l : List Int} (h : ∀ v ∈ l, 0 ≤ v) (i : Nat) : 0 ≤ l.getD i 0 := by
  by_cases hi : i < l.length
  · rw [List.getD_eq_getElem?_getD, List.getElem?_eq_getElem hi]
    exact h _ (List.getElem_mem hi)
  · rw [getD_out (by omega)]; decide
def LawAp (rl r1 r0 wl x1 dx1 b1 x0 dx0 b0 mL nL c2 c1 : Nat) : Prop :=
  @Ne Nat nL mL ∧ @Ne Nat c2 nL ∧ @Ne Nat c1 nL ∧ @Ne Nat c2 mL ∧ @Ne Nat c1 mL ∧ @Ne Nat c1 c2 ∧ mL < dx0 ∧ nL < dx0 ∧ c2 < dx0 ∧ c1 < dx0 ∧ dx0 < x0 ∧ x0 < b0 ∧ b0 < dx1 ∧ dx1 < x1 ∧ x1 < b1 ∧ b1 < wl ∧ wl < r0 ∧ r0 < r1 ∧ r1 < rl
theorem seps0a {rl r1 r0 wl x1 dx1 b1 x0 dx0 b0 mL nL c2 c1 : Addr} (more : List (Addr × Obj)) (H : LawAp rl r1 r0 wl x1 dx1 b1 x0 dx0 b0 mL nL c2 c1) (hI : ∀ p ∈ more, @LT.lt Nat _ rl p.1) {p1 p2 p3 p4 p5 p6 p7 p8 p9 p10 q : Obj} : WSep x0 dx0 b0 ((r0, q) :: (more ++ (rl, p1) :: (r1, p2) :: (wl, p3) :: (x1, p4) :: (dx1, p5) :: (b1, p6) :: (mL, p7) :: (nL, p8) :: (c2, p9) :: [(c1, p10)])) := by
  unfold LawAp at H
  refine ⟨?_, ?_, ?_, ?_, ?_⟩
  all_goals repeat' (first | exact List.forall_mem_nil _ | refine List.forall_mem_cons.mpr ⟨?_, ?_⟩ | refine List.forall_mem_append.mpr ⟨?_, ?_⟩ | (intro p hp; have h9 := hI p hp))
  all_goals ((try dsimp only); show @Ne Nat _ _; omega)
theorem seps0b {rl r1 r0 wl x1 dx1 b1 x0 dx0 b0 mL nL c2 c1 : Addr} (H : LawAp rl r1 r0 wl x1 dx1 b1 x0 dx0 b0 mL nL c2 c1) : @Ne Nat x0 r0 := by
  unfold LawAp at H; omega
theorem seps0c {rl r1 r0 wl x1 dx1 b1 x0 dx0 b0 mL nL c2 c1 : Addr} (more : List (Addr × Obj)) (H : LawAp rl r1 r0 wl x1 dx1 b1 x0 dx0 b0 mL nL c2 c1) (hI : ∀ p ∈ more, @LT.lt Nat _ rl p.1) {p1 p2 p3 p4 p5 p6 p7 p8 p9 p10 : Obj} : ∀ p ∈ more ++ (rl, p1) :: (r1, p2) :: (wl, p3) :: (x1, p4) :: (dx1, p5) :: (b1, p6) :: (mL, p7) :: (nL, p8) :: (c2, p9) :: [(c1, p10)], p.1 ≠ r0 := by
  unfold LawAp at H
  skip
  all_goals repeat' (first | exact List.forall_mem_nil _ | refine List.forall_mem_cons.mpr ⟨?_, ?_⟩ | refine List.forall_mem_append.mpr ⟨?_, ?_⟩ | (intro p hp; have h9 := hI p hp))
  all_goals ((try dsimp only); show @Ne Nat _ _; omega)
theorem seps0d {rl r1 r0 wl x1 dx1 b1 x0 dx0 b0 mL nL c2 c1 : Addr} (more : List (Addr × Obj)) (H : LawAp rl r1 r0 wl x1 dx1 b1 x0 dx0 b0 mL nL c2 c1) (hI : ∀ p ∈ more, @LT.lt Nat _ rl p.1) {p1 p2 p3 p4 p5 p6 p7 p8 p9 p10 q1 q2 q3 : Obj} : ∀ p ∈ (x0, q1) :: (dx0, q2) :: (b0, q3) :: (more ++ (rl, p1) :: (r1, p2) :: (wl, p3) :: (x1, p4) :: (dx1, p5) :: (b1, p6) :: (mL, p7) :: (nL, p8) :: (c2, p9) :: [(c1, p10)]), p.1 ≠ r0 := by
  unfold LawAp at H
  skip
  all_goals repeat' (first | exact List.forall_mem_nil _ | refine List.forall_mem_cons.mpr ⟨?_, ?_⟩ | refine List.forall_mem_append.mpr ⟨?_, ?_⟩ | (intro p hp; have h9 := hI p hp))
  all_goals ((try dsimp only); show @Ne Nat _ _; omega)
theorem seps1a {rl r1 r0 wl x1 dx1 b1 x0 dx0 b0 mL nL c2 c1 : Addr} (more : List (Addr × Obj)) (H : LawAp rl r1 r0 wl x1 dx1 b1 x0 dx0 b0 mL nL c2 c1) (hI : ∀ p ∈ more, @LT.lt Nat _ rl p.1) {p1 p2 p3 p4 p5 p6 p7 p8 p9 p10 q : Obj} : WSep x1 dx1 b1 ((r1, q) :: (more ++ (rl, p1) :: (r0, p2) :: (wl, p3) :: (x0, p4) :: (dx0, p5) :: (b0, p6) :: (mL, p7) :: (nL, p8) :: (c2, p9) :: [(c1, p10)])) := by
  unfold LawAp at H
  refine ⟨?_, ?_, ?_, ?_, ?_⟩
  all_goals repeat' (first | exact List.forall_mem_nil _ | refine List.forall_mem_cons.mpr ⟨?_, ?_⟩ | refine List.forall_mem_append.mpr ⟨?_, ?_⟩ | (intro p hp; have h9 := hI p hp))
  all_goals ((try dsimp only); show @Ne Nat _ _; omega)
theorem seps1b {rl r1 r0 wl x1 dx1 b1 x0 dx0 b0 mL nL c2 c1 : Addr} (H : LawAp rl r1 r0 wl x1 dx1 b1 x0 dx0 b0 mL nL c2 c1) : @Ne Nat x1 r1 := by
  unfold LawAp at H; omega
theorem seps1c {rl r1 r0 wl x1 dx1 b1 x0 dx0 b0 mL nL c2 c1 : Addr} (more : List (Addr × Obj)) (H : LawAp rl r1 r0 wl x1 dx1 b1 x0 dx0 b0 mL nL c2 c1) (hI : ∀ p ∈ more, @LT.lt Nat _ rl p.1) {p1 p2 p3 p4 p5 p6 p7 p8 p9 p10 : Obj} : ∀ p ∈ more ++ (rl, p1) :: (r0, p2) :: (wl, p3) :: (x0, p4) :: (dx0, p5) :: (b0, p6) :: (mL, p7) :: (nL, p8) :: (c2, p9) :: [(c1, p10)], p.1 ≠ r1 := by
  unfold LawAp at H
  skip
  all_goals repeat' (first | exact List.forall_mem_nil _ | refine List.forall_mem_cons.mpr ⟨?_, ?_⟩ | refine List.forall_mem_append.mpr ⟨?_, ?_⟩ | (intro p hp; have h9 := hI p hp))
  all_goals ((try dsimp only); show @Ne Nat _ _; omega)
theorem seps1d {rl r1 r0 wl x1 dx1 b1 x0 dx0 b0 mL nL c2 c1 : Addr} (more : List (Addr × Obj)) (H : LawAp rl r1 r0 wl x1 dx1 b1 x0 dx0 b0 mL nL c2 c1) (hI : ∀ p ∈ more, @LT.lt Nat _ rl p.1) {p1 p2 p3 p4 p5 p6 p7 p8 p9 p10 q1 q2 q3 : Obj} : ∀ p ∈ (x1, q1) :: (dx1, q2) :: (b1, q3) :: (more ++ (rl, p1) :: (r0, p2) :: (wl, p3) :: (x0, p4) :: (dx0, p5) :: (b0, p6) :: (mL, p7) :: (nL, p8) :: (c2, p9) :: [(c1, p10)]), p.1 ≠ r1 := by
  unfold LawAp at H
  skip
  all_goals repeat' (first | exact List.forall_mem_nil _ | refine List.forall_mem_cons.mpr ⟨?_, ?_⟩ | refine List.forall_mem_append.mpr ⟨?_, ?_⟩ | (intro p hp; have h9 := hI p hp))
  all_goals ((try dsimp only); show @Ne Nat _ _; omega)
theorem octs_ints {bits : List Int} (hb : IsBits bits) : KBw.bInts (byteArr (octs bits)) = octs bits := KBa.ints_make (octAt_byte hb)
theorem nm_rd {P : Prop} {h₀ h : Heap} {L plL p1 p0 rdL r1 r0 : Addr} {tq1 tq0 : Tok} {o1 o2 : Obj} {rest : List (Addr × Obj)} (N : News h₀ L h ((plL, o1) :: (p1, W.listOf #[.ref r1, .int 0 tq1] 0) :: (p0, W.listOf #[.ref r0, .int 0 tq0] 0) :: (rdL, o2) :: rest))
    (k : ∀ plL' p1' p0' rdL' tq1' tq0', News h₀ L h ((plL', o1) :: (p1', W.listOf #[.ref r1, .int 0 tq1'] 0) :: (p0', W.listOf #[.ref r0, .int 0 tq0'] 0) :: (rdL', o2) :: rest) → plL' = plL → p1' = p1 → p0' = p0 → rdL' = rdL → P) : P := k plL p1 p0 rdL tq1 tq0 N rfl rfl rfl rfl
def RdAp (plL p1 p0 rdL y1 dy1 y0 dy0 r1 r0 mL nL c2 c1 : Nat) : Prop :=
  mL < r0 ∧ nL < r0 ∧ c2 < r0 ∧ c1 < r0 ∧ r0 < r1 ∧ r1 < dy0 ∧ dy0 < y0 ∧ y0 < dy1 ∧ dy1 < y1 ∧ y1 < rdL ∧ rdL < p0 ∧ p0 < p1 ∧ p1 < plL
theorem spec0_use {w : World} {mean : ExcName → Option Value} {mg mb : Str → Option Value} {f : Addr} {vs : List Value} {news : List (Addr × Obj)} {D U : Nat} {Ret : Value → List (Addr × Obj) → Prop}
    (S : Spec0 w mean mg mb f vs news D U Ret) {dp un : Nat} {gd : Option (List Code)} {cn : Str} {cs : Scope} {a : Addr} {ccd : Value} {cl : List (Str × Addr)} {A₀ : Around} {base h₀ : Heap} {L : Addr} {m : Str → Option Value} {s : Shared}
    {Q E : Value → Shared → Prop} (B : Below A₀ base [] h₀) (F : Fr h₀ L s.heap m) (X : (FC.hd.heap_39 w.params).In h₀) (N : News h₀ L s.heap news)
    (T : Top FC.hd.view_39 (looseW FC.hd.view_39 [Str.ofString "BTClibValueError", Str.ofString "BTClibTypeError", Str.ofString "bytes_from_octets"]) mean mg mb h₀)
    (XB : (FC.hd.heap_39 w.params).In base) (TB : Top FC.hd.view_39 (looseW FC.hd.view_39 [Str.ofString "BTClibValueError", Str.ofString "BTClibTypeError", Str.ofString "bytes_from_octets"]) mean mg mb base)
    (hk : cs.kind = .function) (hd : dp + D < recursionLimit) (hu : un + U < cLine)
    (ret : ∀ r news' h' tk', Fr h₀ L h' m → News h₀ L h' news' → Ret r news' → Q r { s with heap := h', toks := tk' }) :
    wpAny (model PySem.Challenge.rw_fc5004_01.row.prog w) (ktrTop dp un gd cn cs L a ccd cl []) (call (.ref f) vs) Q E s := S _ _ _ _ _ _ _ _ _ _ _ _ _ _ _ _ B F X N T XB TB hk hd hu ret
theorem seprd0 {plL p1 p0 rdL y1 dy1 y0 dy0 r1 r0 mL nL c2 c1 : Addr} (H : RdAp plL p1 p0 rdL y1 dy1 y0 dy0 r1 r0 mL nL c2 c1) : @Ne Nat y0 dy0 ∧ @Ne Nat y0 p0 ∧ @Ne Nat y0 r0 ∧ @Ne Nat dy0 p0 ∧ @Ne Nat dy0 r0 ∧ @Ne Nat p0 r0 := by
  unfold RdAp at H; omega
theorem seprd0d {plL p1 p0 rdL y1 dy1 y0 dy0 r1 r0 mL nL c2 c1 I : Addr} (H : RdAp plL p1 p0 rdL y1 dy1 y0 dy0 r1 r0 mL nL c2 c1) (hI : @LT.lt Nat _ plL I) {z0 z1 z2 z3 z4 z5 z6 z7 z8 z9 z10 : Obj} : ∀ p ∈ (I, z0) :: (plL, z1) :: (p1, z2) :: (rdL, z3) :: (y1, z4) :: (dy1, z5) :: (r1, z6) :: (mL, z7) :: (nL, z8) :: (c2, z9) :: [(c1, z10)], p.1 ≠ dy0 := by
  unfold RdAp at H
  repeat' (first | exact List.forall_mem_nil _ | refine List.forall_mem_cons.mpr ⟨?_, ?_⟩)
  all_goals ((try dsimp only); show @Ne Nat _ _; omega)
theorem seprd0p {plL p1 p0 rdL y1 dy1 y0 dy0 r1 r0 mL nL c2 c1 I : Addr} (H : RdAp plL p1 p0 rdL y1 dy1 y0 dy0 r1 r0 mL nL c2 c1) (hI : @LT.lt Nat _ plL I) {z0 z1 z2 z3 z4 z5 z6 z7 z8 z9 z10 : Obj} : ∀ p ∈ (I, z0) :: (plL, z1) :: (p1, z2) :: (rdL, z3) :: (y1, z4) :: (dy1, z5) :: (r1, z6) :: (mL, z7) :: (nL, z8) :: (c2, z9) :: [(c1, z10)], p.1 ≠ p0 := by
  unfold RdAp at H
  repeat' (first | exact List.forall_mem_nil _ | refine List.forall_mem_cons.mpr ⟨?_, ?_⟩)
  all_goals ((try dsimp only); show @Ne Nat _ _; omega)
theorem seprd1 {plL p1 p0 rdL y1 dy1 y0 dy0 r1 r0 mL nL c2 c1 : Addr} (H : RdAp plL p1 p0 rdL y1 dy1 y0 dy0 r1 r0 mL nL c2 c1) : @Ne Nat y1 dy1 ∧ @Ne Nat y1 p1 ∧ @Ne Nat y1 r1 ∧ @Ne Nat dy1 p1 ∧ @Ne Nat dy1 r1 ∧ @Ne Nat p1 r1 := by
  unfold RdAp at H; omega
theorem seprd1d {plL p1 p0 rdL y1 dy1 y0 dy0 r1 r0 mL nL c2 c1 I : Addr} (H : RdAp plL p1 p0 rdL y1 dy1 y0 dy0 r1 r0 mL nL c2 c1) (hI : @LT.lt Nat _ plL I) {z0 z1 z2 z3 z4 z5 z6 z7 z8 z9 z10 : Obj} : ∀ p ∈ (I, z0) :: (plL, z1) :: (p0, z2) :: (rdL, z3) :: (y0, z4) :: (dy0, z5) :: (r0, z6) :: (mL, z7) :: (nL, z8) :: (c2, z9) :: [(c1, z10)], p.1 ≠ dy1 := by
  unfold RdAp at H
  repeat' (first | exact List.forall_mem_nil _ | refine List.forall_mem_cons.mpr ⟨?_, ?_⟩)
  all_goals ((try dsimp only); show @Ne Nat _ _; omega)
theorem seprd1p {plL p1 p0 rdL y1 dy1 y0 dy0 r1 r0 mL nL c2 c1 I : Addr} (H : RdAp plL p1 p0 rdL y1 dy1 y0 dy0 r1 r0 mL nL c2 c1) (hI : @LT.lt Nat _ plL I) {z0 z1 z2 z3 z4 z5 z6 z7 z8 z9 z10 : Obj} : ∀ p ∈ (I, z0) :: (plL, z1) :: (p0, z2) :: (rdL, z3) :: (y0, z4) :: (dy0, z5) :: (r0, z6) :: (mL, z7) :: (nL, z8) :: (c2, z9) :: [(c1, z10)], p.1 ≠ p1 := by
  unfold RdAp at H
  repeat' (first | exact List.forall_mem_nil _ | refine List.forall_mem_cons.mpr ⟨?_, ?_⟩)
  all_goals ((try dsimp only); show @Ne Nat _ _; omega)
theorem wsep_new {x dx b : Addr} {news : List (Addr × Obj)} (h : ∀ p ∈ news, p.1 < dx) (h1 : dx < x) (h2 : x < b) : WSep x dx b news :=
  ⟨Nat.ne_of_gt h1, Nat.ne_of_lt h2, Nat.ne_of_lt (Nat.lt_trans h1 h2), fun p hp => Nat.ne_of_lt (h p hp), fun p hp => Nat.ne_of_lt (Nat.lt_trans (h p hp) (Nat.lt_trans h1 h2))⟩
theorem nm1 {P : Prop} {h₀ h : Heap} {L a : Addr} {o : Obj} {rest : List (Addr × Obj)} (_ : News h₀ L h ((a, o) :: rest)) (k : ∀ a' o', a' = a → o' = o → P) : P := k a o rfl rfl
theorem nm01 {P : Prop} {h₀ h : Heap} {L a : Addr} {ta tb : Tok} {rest : List (Addr × Obj)} (N : News h₀ L h ((a, W.listOf #[.int 0 ta, .int 1 tb] 0) :: rest)) (k : ∀ a' ta' tb', News h₀ L h ((a', W.listOf #[.int 0 ta', .int 1 tb'] 0) :: rest) → a' = a → P) : P := k a ta tb N rfl
theorem lt_one {rl I : Addr} {o : Obj} (h : @LT.lt Nat _ rl I) : ∀ p ∈ [(I, o)], @LT.lt Nat _ rl p.1 := List.forall_mem_cons.mpr ⟨h, List.forall_mem_nil _⟩
theorem lt_two {rl I l2 : Addr} {o o2 : Obj} (h : @LT.lt Nat _ rl I) (h2 : @LT.lt Nat _ rl l2) : ∀ p ∈ [(I, o), (l2, o2)], @LT.lt Nat _ rl p.1 := List.forall_mem_cons.mpr ⟨h, lt_one h2⟩
theorem nm_law {P : Prop} {h₀ h : Heap} {L rl r1 r0 wl a1 a2 a3 a4 a5 a6 mL nL c2 c1 : Addr} {o1 o2 o3 o4 p1 p2 p3 p4 p5 p6 oc2 oc1 : Obj} {ysm ysn : List Value} (_ : News h₀ L h [(rl, o1), (r1, o2), (r0, o3), (wl, o4), (a1, p1), (a2, p2), (a3, p3), (a4, p4), (a5, p5), (a6, p6), (mL, LCg.lst ysm), (nL, LCg.lst ysn), (c2, oc2), (c1, oc1)])
    (k : ∀ rl' r1' r0' wl' mL' nL' oc2' oc1' ysm' ysn', rl' = rl → r1' = r1 → r0' = r0 → wl' = wl → mL' = mL → nL' = nL → oc2' = oc2 → oc1' = oc1 → ysm' = ysm → ysn' = ysn → P) : P := k rl r1 r0 wl mL nL oc2 oc1 ysm ysn rfl rfl rfl rfl rfl rfl rfl rfl rfl rfl
theorem law_holds : PySem.Challenge.rw_fc5004_01.Holds := by
  refine FC.hd ?_
  k_fill
  intro w s₀ s₁ mg mb G Y fa o pm cd doc dV kV ho hd hcd hD hmg hg args vals as hpre hlay hrd hwl hlo
  have KX := kIn_of Y
  have X := (Ground.X G).1
  have V := (Ground.X G).2
  refine Ground.open G ?_
  intro T B D TE TW
  obtain ⟨_, _, M⟩ := bmod_of_top T
  clear hmg
  wrow_args hpre hlay hrd hwl hlo
  refine ⟨?_, ?_⟩
  · refine enter_callC ?_
    have K0 := below_caller (Top.heap T)
    have he := Dflts.none hD rfl; subst he; have he := Dflts.noKw hD; subst he
    refine codeC_cells (by decide) ho (fd_plain hd) (Top.nolimit T) hcd rfl (kinds_of (by kinds_ok)) (by decide) fun h₁ tk₁ cells F N0 X0 => ?_
    cells_open X0
    refine wpC_consL ?_
    k_steps
    dsimp only
    rename IntsAre _ (List.map _ (rangeKs _ _)) => hI8
    generalize hns : List.map _ (rangeKs _ _) = ns at hI8
    have hnl : ns.length = 14 := by rw [← hns, List.length_map, rangeKs_length]; rfl
    clear hns
    refine wpC_consL ?_
    k_steps
    try dsimp only
    rename IntsAre _ (List.map _ (rangeKs _ _)) => hI9
    generalize hms : List.map _ (rangeKs _ _) = ms at hI9
    have hml : ms.length = 14 := by rw [← hms, List.length_map, rangeKs_length]; rfl
    have hm0 : ∀ v ∈ ms, 0 ≤ v := by
      intro v hv
      rw [← hms] at hv
      obtain ⟨i, hi, rfl⟩ := List.mem_map.mp hv
      have hi0 : 0 ≤ i := by obtain ⟨j, _, rfl⟩ := List.mem_map.mp hi; omega
      have hx : 0 ≤ (ns.getD i.toNat 0).fmod 1000003 := by rw [Int.fmod_eq_emod_of_nonneg _ (by decide)]; exact Int.emod_nonneg _ (by decide)
      rw [Int.fdiv_eq_ediv_of_nonneg _ (by decide)]
      exact Int.ediv_nonneg (Int.mul_nonneg (by omega) (by decide)) (by decide)
    clear hms
    refine wpC_cons (wpC_Assign (wpC_List (wpC_splicedCons (wpC_CallName ?_))))
    k_steps
    refine wpC_callWith (P := (FC.hd.heap_39 w.params).In) rfl (keeps_K (by k_is)) (wpC_of ?_)
    k_steps
    refine' specC_use (specC_newWriter) ?k1 ?k2 ?k3 ?k4 ?k5 ?kK ?kd ?ku ?_
    case k1 => k_asm
    case k2 => k_asm
    case k3 => k_asm
    case k4 => walk_at "fc pick"
    case k5 => k_asm
    case kK => first | exact rfl | assumption
    case kd => walk_at "fc room"
    case ku => walk_at "fc units"
    rintro r news' h' tk' F' N' ⟨x0, dx0, b0, h01, h02, h03, k01, k02, k03, t02, t03, rfl, rfl, l01, l02, l03⟩
    k_lt l01
    refine wpC_splicedCons (wpC_CallName ?_)
    k_steps
    refine wpC_callWith (P := (FC.hd.heap_39 w.params).In) rfl (keeps_K (by k_is)) (wpC_of ?_)
    k_steps
    refine' specC_use (specC_newWriter) ?k1 ?k2 ?k3 ?k4 ?k5 ?kK ?kd ?ku ?_
    case k1 => k_asm
    case k2 => k_asm
    case k3 => k_asm
    case k4 => walk_at "fc pick"
    case k5 => k_asm
    case kK => first | exact rfl | assumption
    case kd => walk_at "fc room"
    case ku => walk_at "fc units"
    rintro r news' h' tk' F' N' ⟨x1, dx1, b1, h11, h12, h13, k11, k12, k13, t12, t13, rfl, rfl, l11, l12, l13⟩
    k_lt l11
    refine wpC_splicedNil ?_
    k_steps
    dsimp only
    refine wpC_consL ?_
    k_steps
    dsimp only
    rename News _ _ _ _ => N9
    refine nm_law N9 ?_
    intro rl r1 r0 wl mL nL oc2 oc1 ysm ysn e1 e2 e3 e4 e5 e6 e7 e8 e9 e10
    subst e1 e2 e3 e4 e5 e6 e7 e8 e9 e10
    have AP : LawAp rl r1 r0 wl x1 dx1 b1 x0 dx0 b0 mL nL (s₁.heap.objs.size + 1 + 1) (s₁.heap.objs.size + 1) := by
      rename (s₁.heap.objs.size + 1 + 1 ≠ nL ∧ _) => q1
      rename (nL ≠ mL ∧ _) => q2
      rename (x1 < wl ∧ _) => q3
      rename (wl < r0 ∧ _) => q4
      rename (r0 < r1 ∧ _) => q5
      rename (r1 < rl ∧ _) => q6
      exact ⟨q2.1, q1.1, q1.2, q2.2.1, q2.2.2, by omega, l01.1, l01.2.1, l01.2.2.1, l01.2.2.2, l02, l03, l11.2.2.1, l12, l13, q3.2.2.1, q4.1, q5.1, q6.1⟩
    refine wpC_cons ?_
    refine wpS_C (exec_forS ?_)
    k_steps
    refine' forRangeN (K := tidyK) (n := 14) (J := fun m₁ n₁ i m' news' => (∃ u, m' = fun y => if y = Str.ofString "k" then u else m₁ y) ∧ ∃ bits0 bits1 ys0 ys1 c0 c1 arr0 arr1 bv0 fv0 bv1 fv1 tb0 tf0 tb1 tf1, bits0.length ≤ 60 * i ∧ bits1.length ≤ 60 * i ∧ WRep bits0 arr0 bv0 fv0 ∧ WRep bits1 arr1 bv1 fv1 ∧ IntsAre ys0 bits0 ∧ IntsAre ys1 bits1 ∧
      news' = [(rl, W.listOf #[.ref r0, .ref r1] 0), (r1, W.listOf ys1.toArray c1), (r0, W.listOf ys0.toArray c0), (wl, W.listOf #[.ref x0, .ref x1] 0), (x1, instObj 132 dx1), (dx1, wDict h11 h12 h13 k11 k12 k13 b1 bv1 tb1 fv1 tf1), (b1, baObj arr1), (x0, instObj 132 dx0), (dx0, wDict h01 h02 h03 k01 k02 k03 b0 bv0 tb0 fv0 tf0), (b0, baObj arr0), (mL, LCg.lst ysm), (nL, LCg.lst ysn), (s₁.heap.objs.size + 1 + 1, oc2), (s₁.heap.objs.size + 1, oc1)]) ?hh ?hK ?hKb ?hk ?hx ?hr ?F ?N ?hsm ?hn ?h0 ?sep ?turn ?done
    case hh => exact rfl
    case hK => exact fun _ => rfl
    case hKb => exact rfl
    case hk => exact rfl
    case hx => exact rfl
    case hr => assumption
    case F => k_asm
    case N => k_asm
    case hsm => decide
    case hn => decide
    case h0 => exact ⟨⟨_, same_name⟩, [], [], [], [], 0, 0, #[], #[], 0, 0, 0, 0, _, _, _, _, by simp, by simp, WRep.nil, WRep.nil, .nil, .nil, rfl⟩
    case sep =>
      rintro I i m' news' hI _ ⟨_, _, _, _, _, _, _, _, _, _, _, _, _, _, _, _, _, _, _, _, _, _, _, _, rfl⟩
      exact sep_same hI rfl
    case turn =>
      intro I hI i tk o m' news' h tk' hi hJ F1 N1
      obtain ⟨⟨u, rfl⟩, bits0, bits1, ys0, ys1, c0, c1, arr0, arr1, bv0, fv0, bv1, fv1, tb0, tf0, tb1, tf1, z0, z1, W0, W1, I0, I1, rfl⟩ := hJ
      k_lt hI
      refine C_wpS (wpC_cons (wpC_If (wpC_isTrue_Not (wpC_isTrue_Call (wpC_CallName ?_)))))
      k_steps
      have hgi : 0 ≤ ms.getD (0 + (i : Int) * 1).toNat 0 := getD_nonneg hm0 _
      have hgd : 0 ≤ (ms.getD (0 + (i : Int) * 1).toNat 0).fdiv 2 := by rw [Int.fdiv_eq_ediv_of_nonneg _ (by decide)]; exact Int.ediv_nonneg hgi (by decide)
      refine wpC_callWith (P := (FC.hd.heap_39 w.params).In) rfl (keeps_K (by k_is)) (wpC_of ?_)
      k_steps
      · rename News _ _ _ _ => N8
        refine' specC_use (specC_lawWrite (x := x0) (dx := dx0) (b := b0) (l := r0) (cap := c0) (ys := ys0) (h1 := h01) (h2 := h02) (h3 := h03) (k1 := k01) (k2 := k02) (k3 := k03) (tb := tb0) (tf := tf0) (news := (I, o) :: (rl, W.listOf #[.ref r0, .ref r1] 0) :: (r1, W.listOf ys1.toArray c1) :: (wl, W.listOf #[.ref x0, .ref x1] 0) :: (x1, instObj 132 dx1) :: (dx1, wDict h11 h12 h13 k11 k12 k13 b1 bv1 tb1 fv1 tf1) :: (b1, baObj arr1) :: (mL, LCg.lst ysm) :: (nL, LCg.lst ysn) :: (s₁.heap.objs.size + 1 + 1, oc2) :: [(s₁.heap.objs.size + 1, oc1)]) (seps0a [(I, o)] AP (lt_one hI.1)) (seps0b AP) (seps0c [(I, o)] AP (lt_one hI.1)) W0 I0 hgd (by omega)) ?k1 ?k2 ?k3 ?k4 ?k5 ?kK ?kd ?ku ?_
        case k1 => k_asm
        case k2 => k_asm
        case k3 => k_asm
        case k4 => exact cb_drop N8 (by walk_at "fc led")
        case k5 => k_asm
        case kK => exact rfl
        case kd => walk_at "fc room"
        case ku => walk_at "fc units"
        rintro r news' h' tk' F' N' ⟨rfl, bits', ys', cap', arr', bv', fv', tb', tf', hw, W', I', rfl⟩
        k_steps
        rename News _ _ _ _ => N7
        rename Fr _ _ _ _ => F7
        refine wpC_nil ?_
        dsimp only
        refine wpC_nil ?_
        exact TurnEnd.next (news' := [(rl, W.listOf #[.ref r0, .ref r1] 0), (r1, W.listOf ys1.toArray c1), (r0, W.listOf ys'.toArray cap'), (wl, W.listOf #[.ref x0, .ref x1] 0), (x1, instObj 132 dx1), (dx1, wDict h11 h12 h13 k11 k12 k13 b1 bv1 tb1 fv1 tf1), (b1, baObj arr1), (x0, instObj 132 dx0), (dx0, wDict h01 h02 h03 k01 k02 k03 b0 bv' tb' fv' tf'), (b0, baObj arr'), (mL, LCg.lst ysm), (nL, LCg.lst ysn), (s₁.heap.objs.size + 1 + 1, oc2), (s₁.heap.objs.size + 1, oc1)]) F7 N7 (by walk_at "fc led") ⟨⟨_, frame1 rfl fun n e => by simp only [e, if_false]⟩, bits', bits1, ys', ys1, cap', c1, arr', arr1, bv', fv', bv1, fv1, tb', tf', tb1, tf1, by omega, by omega, W', W1, I', I1, rfl⟩
      · rename News _ _ _ _ => N8
        refine' specC_use (specC_lawWrite (x := x1) (dx := dx1) (b := b1) (l := r1) (cap := c1) (ys := ys1) (h1 := h11) (h2 := h12) (h3 := h13) (k1 := k11) (k2 := k12) (k3 := k13) (tb := tb1) (tf := tf1) (news := (I, o) :: (rl, W.listOf #[.ref r0, .ref r1] 0) :: (r0, W.listOf ys0.toArray c0) :: (wl, W.listOf #[.ref x0, .ref x1] 0) :: (x0, instObj 132 dx0) :: (dx0, wDict h01 h02 h03 k01 k02 k03 b0 bv0 tb0 fv0 tf0) :: (b0, baObj arr0) :: (mL, LCg.lst ysm) :: (nL, LCg.lst ysn) :: (s₁.heap.objs.size + 1 + 1, oc2) :: [(s₁.heap.objs.size + 1, oc1)]) (seps1a [(I, o)] AP (lt_one hI.1)) (seps1b AP) (seps1c [(I, o)] AP (lt_one hI.1)) W1 I1 hgd (by omega)) ?k1 ?k2 ?k3 ?k4 ?k5 ?kK ?kd ?ku ?_
        case k1 => k_asm
        case k2 => k_asm
        case k3 => k_asm
        case k4 => exact cb_drop N8 (by walk_at "fc led")
        case k5 => k_asm
        case kK => exact rfl
        case kd => walk_at "fc room"
        case ku => walk_at "fc units"
        rintro r news' h' tk' F' N' ⟨rfl, bits', ys', cap', arr', bv', fv', tb', tf', hw, W', I', rfl⟩
        k_steps
        rename News _ _ _ _ => N7
        rename Fr _ _ _ _ => F7
        refine wpC_nil ?_
        dsimp only
        refine wpC_nil ?_
        exact TurnEnd.next (news' := [(rl, W.listOf #[.ref r0, .ref r1] 0), (r1, W.listOf ys'.toArray cap'), (r0, W.listOf ys0.toArray c0), (wl, W.listOf #[.ref x0, .ref x1] 0), (x1, instObj 132 dx1), (dx1, wDict h11 h12 h13 k11 k12 k13 b1 bv' tb' fv' tf'), (b1, baObj arr'), (x0, instObj 132 dx0), (dx0, wDict h01 h02 h03 k01 k02 k03 b0 bv0 tb0 fv0 tf0), (b0, baObj arr0), (mL, LCg.lst ysm), (nL, LCg.lst ysn), (s₁.heap.objs.size + 1 + 1, oc2), (s₁.heap.objs.size + 1, oc1)]) F7 N7 (by walk_at "fc led") ⟨⟨_, frame1 rfl fun n e => by simp only [e, if_false]⟩, bits0, bits', ys0, ys', c0, cap', arr0, arr', bv0, fv0, bv', fv', tb0, tf0, tb', tf', by omega, by omega, W0, W', I0, I', rfl⟩
    case done =>
      intro m' news' h tk hJ F1 N1
      obtain ⟨⟨u, rfl⟩, bits0, bits1, ys0, ys1, c0, c1, arr0, arr1, bv0, fv0, bv1, fv1, tb0, tf0, tb1, tf1, z0, z1, W0, W1, I0, I1, rfl⟩ := hJ
      dsimp only
      refine wpC_cons ?_
      refine wpS_C (exec_forS ?_)
      k_steps
      rename News _ _ _ _ => N9
      refine nm01 N9 ?_
      clear N9
      intro l2 ta tb N9 e1
      subst e1
      have hl2 : @LT.lt Nat _ rl l2 := by
        rename rl < l2 ∧ _ => q
        exact q.1
      refine' forListN (K := tidyK) (items := #[.int 0 ta, .int 1 tb]) (J := fun m₁ n₁ i m' news' => (∃ u, m' = fun y => if y = Str.ofString "side" then u else m₁ y) ∧ ∃ bits0 bits1 ys0 ys1 c0 c1 arr0 arr1 bv0 fv0 bv1 fv1 tb0 tf0 tb1 tf1, bits0.length ≤ 840 + 10 * i ∧ bits1.length ≤ 840 + 10 * i ∧ (i < 1 ∨ bits0.length % 8 = 0) ∧ (i < 2 ∨ bits1.length % 8 = 0) ∧ WRep bits0 arr0 bv0 fv0 ∧ WRep bits1 arr1 bv1 fv1 ∧ IntsAre ys0 bits0 ∧ IntsAre ys1 bits1 ∧
        news' = [(l2, W.listOf #[.int 0 ta, .int 1 tb] 0), (rl, W.listOf #[.ref r0, .ref r1] 0), (r1, W.listOf ys1.toArray c1), (r0, W.listOf ys0.toArray c0), (wl, W.listOf #[.ref x0, .ref x1] 0), (x1, instObj 132 dx1), (dx1, wDict h11 h12 h13 k11 k12 k13 b1 bv1 tb1 fv1 tf1), (b1, baObj arr1), (x0, instObj 132 dx0), (dx0, wDict h01 h02 h03 k01 k02 k03 b0 bv0 tb0 fv0 tf0), (b0, baObj arr0), (mL, LCg.lst ysm), (nL, LCg.lst ysn), (s₁.heap.objs.size + 1 + 1, oc2), (s₁.heap.objs.size + 1, oc1)]) ?hh ?hK ?hKb ?hk ?hx ?hl ?F ?N ?h0 ?side ?sep ?turn2 ?done2
      case hh => exact rfl
      case hK => exact fun _ => rfl
      case hKb => exact rfl
      case hk => exact rfl
      case hx => exact rfl
      case hl => exact News.isList (by k_asm) (by k_mem)
      case F => k_asm
      case N => k_asm
      case h0 => exact ⟨⟨_, same_name⟩, bits0, bits1, ys0, ys1, c0, c1, arr0, arr1, bv0, fv0, bv1, fv1, tb0, tf0, tb1, tf1, by omega, by omega, .inl (by omega), .inl (by omega), W0, W1, I0, I1, rfl⟩
      case side =>
        rintro i m' news' h hi ⟨_, _, _, _, _, _, _, _, _, _, _, _, _, _, _, _, _, _, _, _, _, _, _, _, _, _, rfl⟩ F1 N1
        exact News.isList N1 (by k_mem)
      case sep =>
        rintro I i m' news' hI _ ⟨_, _, _, _, _, _, _, _, _, _, _, _, _, _, _, _, _, _, _, _, _, _, _, _, _, _, rfl⟩
        exact sep_same hI rfl
      case turn2 =>
        intro I hI i v o m' news' h tk' hv hJ F1 N1
        obtain ⟨⟨u, rfl⟩, bits0, bits1, ys0, ys1, c0, c1, arr0, arr1, bv0, fv0, bv1, fv1, tb0, tf0, tb1, tf1, z0, z1, f0, f1, W0, W1, I0, I1, rfl⟩ := hJ
        k_lt hI
        rcases i with _ | _ | i
        · obtain rfl : Value.int 0 ta = v := Option.some.inj hv
          have hfl : (bits0 ++ List.replicate (fillN bits0.length) 0).length ≤ 850 := by rw [List.length_append, List.length_replicate]; unfold fillN; omega
          have hfb : IsBits (bits0 ++ List.replicate (fillN bits0.length) 0) := W0.1.append fun b hb => .inl (List.eq_of_mem_replicate hb)
          refine C_wpS (wpC_consL ?_)
          have parkC : ParkCall := trivial
          k_steps
          rename News _ _ _ _ => N8
          refine' spec_use (spec_fill (l := r0) (cap := c0) (ys := ys0) (bits := bits0) (news := (x0, instObj 132 dx0) :: (dx0, wDict h01 h02 h03 k01 k02 k03 b0 bv0 tb0 fv0 tf0) :: (b0, baObj arr0) :: (I, o) :: (l2, W.listOf #[.int 0 ta, .int 1 tb] 0) :: (rl, W.listOf #[.ref r0, .ref r1] 0) :: (r1, W.listOf ys1.toArray c1) :: (wl, W.listOf #[.ref x0, .ref x1] 0) :: (x1, instObj 132 dx1) :: (dx1, wDict h11 h12 h13 k11 k12 k13 b1 bv1 tb1 fv1 tf1) :: (b1, baObj arr1) :: (mL, LCg.lst ysm) :: (nL, LCg.lst ysn) :: (s₁.heap.objs.size + 1 + 1, oc2) :: [(s₁.heap.objs.size + 1, oc1)]) I0 (by omega) (seps0d [(I, o), (l2, W.listOf #[.int 0 ta, .int 1 tb] 0)] AP (lt_two hI.2.1 hl2))) ?k1 ?k2 ?k3 ?k4 ?k5 ?kK ?kd ?ku ?_
          case k1 => k_asm
          case k2 => k_asm
          case k3 => k_asm
          case k4 => exact cb_drop N8 (by walk_at "fc led")
          case k5 => k_asm
          case kK => exact rfl
          case kd => walk_at "fc room"
          case ku => walk_at "fc units"
          rintro r news' h' tk' F' N' ⟨rfl, ys', cap', I', rfl⟩
          k_steps
          refine wpC_cons (wpC_If (wpC_isTrue_Compare (wpC_CallMeth ?_)))
          k_steps
          refine wpC_callWith (P := (FC.hd.heap_39 w.params).In) rfl (keeps_K (by k_is)) (wpC_of ?_)
          k_steps
          rename News _ _ _ _ => N8
          refine' specC_use (specC_flush (x := x0) (dx := dx0) (b := b0) (h1 := h01) (h2 := h02) (h3 := h03) (k1 := k01) (k2 := k02) (k3 := k03) (tb := tb0) (tf := tf0) (news := (r0, W.listOf ys'.toArray cap') :: (I, o) :: (l2, W.listOf #[.int 0 ta, .int 1 tb] 0) :: (rl, W.listOf #[.ref r0, .ref r1] 0) :: (r1, W.listOf ys1.toArray c1) :: (wl, W.listOf #[.ref x0, .ref x1] 0) :: (x1, instObj 132 dx1) :: (dx1, wDict h11 h12 h13 k11 k12 k13 b1 bv1 tb1 fv1 tf1) :: (b1, baObj arr1) :: (mL, LCg.lst ysm) :: (nL, LCg.lst ysn) :: (s₁.heap.objs.size + 1 + 1, oc2) :: [(s₁.heap.objs.size + 1, oc1)]) (seps0a [(I, o), (l2, W.listOf #[.int 0 ta, .int 1 tb] 0)] AP (lt_two hI.2.1 hl2)) W0 (by omega)) ?k1 ?k2 ?k3 ?k4 ?k5 ?kK ?kd ?ku ?_
          case k1 => k_asm
          case k2 => k_asm
          case k3 => k_asm
          case k4 => exact cb_drop N8 (by walk_at "fc led")
          case k5 => k_asm
          case kK => exact rfl
          case kd => walk_at "fc room"
          case ku => walk_at "fc units"
          rintro r news' h' tk' F' N' ⟨arr', tb', tf', u', bits', ⟨n0, hn0, hb', h80⟩, rfl, W', rfl⟩
          have e0 : n0 = fillN bits0.length := fill_unique hn0 (by rw [hb', List.length_append, List.length_replicate] at h80; exact h80)
          subst e0
          subst hb'
          have parkC : ParkCall := trivial
          k_steps
          rename News _ _ _ _ => N8
          refine' spec_use (spec_octets (l := r0) (cap := cap') (ys := ys') (news := (x0, instObj 132 dx0) :: (dx0, wDict h01 h02 h03 k01 k02 k03 b0 0 tb' 0 tf') :: (b0, baObj arr') :: (I, o) :: (l2, W.listOf #[.int 0 ta, .int 1 tb] 0) :: (rl, W.listOf #[.ref r0, .ref r1] 0) :: (r1, W.listOf ys1.toArray c1) :: (wl, W.listOf #[.ref x0, .ref x1] 0) :: (x1, instObj 132 dx1) :: (dx1, wDict h11 h12 h13 k11 k12 k13 b1 bv1 tb1 fv1 tf1) :: (b1, baObj arr1) :: (mL, LCg.lst ysm) :: (nL, LCg.lst ysn) :: (s₁.heap.objs.size + 1 + 1, oc2) :: [(s₁.heap.objs.size + 1, oc1)]) I' hfb (by omega)) ?k1 ?k2 ?k3 ?k4 ?k5 ?kK ?kd ?ku ?_
          case k1 => k_asm
          case k2 => k_asm
          case k3 => k_asm
          case k4 => exact cb_drop N8 (by walk_at "fc led")
          case k5 => k_asm
          case kK => exact rfl
          case kd => walk_at "fc room"
          case ku => walk_at "fc units"
          rintro r news' h' tk' F' N' ⟨t9, rfl, rfl⟩
          k_steps
          · exfalso
            rename (_ != _) = true => hf
            rw [bne_self_eq_false] at hf
            cases hf
          · rename News _ _ _ _ => N7
            rename Fr _ _ _ _ => F7
            refine wpC_nil ?_
            dsimp only
            refine wpC_nil ?_
            exact TurnEnd.next (news' := [(l2, W.listOf #[.int 0 ta, .int 1 tb] 0), (rl, W.listOf #[.ref r0, .ref r1] 0), (r1, W.listOf ys1.toArray c1), (r0, W.listOf ys'.toArray cap'), (wl, W.listOf #[.ref x0, .ref x1] 0), (x1, instObj 132 dx1), (dx1, wDict h11 h12 h13 k11 k12 k13 b1 bv1 tb1 fv1 tf1), (b1, baObj arr1), (x0, instObj 132 dx0), (dx0, wDict h01 h02 h03 k01 k02 k03 b0 0 tb' 0 tf'), (b0, baObj arr'), (mL, LCg.lst ysm), (nL, LCg.lst ysn), (s₁.heap.objs.size + 1 + 1, oc2), (s₁.heap.objs.size + 1, oc1)]) F7 N7 (by walk_at "fc led") ⟨⟨_, frame1 rfl fun n e => by simp only [e, if_false]⟩, _, bits1, ys', ys1, cap', c1, arr', arr1, 0, 0, bv1, fv1, tb', tf', tb1, tf1, by omega, by omega, .inr h80, .inl (by omega), W', W1, I', I1, rfl⟩
        · obtain rfl : Value.int 1 tb = v := Option.some.inj hv
          have hfl : (bits1 ++ List.replicate (fillN bits1.length) 0).length ≤ 860 := by rw [List.length_append, List.length_replicate]; unfold fillN; omega
          have hfb : IsBits (bits1 ++ List.replicate (fillN bits1.length) 0) := W1.1.append fun b hb => .inl (List.eq_of_mem_replicate hb)
          refine C_wpS (wpC_consL ?_)
          have parkC : ParkCall := trivial
          k_steps
          rename News _ _ _ _ => N8
          refine' spec_use (spec_fill (l := r1) (cap := c1) (ys := ys1) (bits := bits1) (news := (x1, instObj 132 dx1) :: (dx1, wDict h11 h12 h13 k11 k12 k13 b1 bv1 tb1 fv1 tf1) :: (b1, baObj arr1) :: (I, o) :: (l2, W.listOf #[.int 0 ta, .int 1 tb] 0) :: (rl, W.listOf #[.ref r0, .ref r1] 0) :: (r0, W.listOf ys0.toArray c0) :: (wl, W.listOf #[.ref x0, .ref x1] 0) :: (x0, instObj 132 dx0) :: (dx0, wDict h01 h02 h03 k01 k02 k03 b0 bv0 tb0 fv0 tf0) :: (b0, baObj arr0) :: (mL, LCg.lst ysm) :: (nL, LCg.lst ysn) :: (s₁.heap.objs.size + 1 + 1, oc2) :: [(s₁.heap.objs.size + 1, oc1)]) I1 (by omega) (seps1d [(I, o), (l2, W.listOf #[.int 0 ta, .int 1 tb] 0)] AP (lt_two hI.2.1 hl2))) ?k1 ?k2 ?k3 ?k4 ?k5 ?kK ?kd ?ku ?_
          case k1 => k_asm
          case k2 => k_asm
          case k3 => k_asm
          case k4 => exact cb_drop N8 (by walk_at "fc led")
          case k5 => k_asm
          case kK => exact rfl
          case kd => walk_at "fc room"
          case ku => walk_at "fc units"
          rintro r news' h' tk' F' N' ⟨rfl, ys', cap', I', rfl⟩
          k_steps
          refine wpC_cons (wpC_If (wpC_isTrue_Compare (wpC_CallMeth ?_)))
          k_steps
          refine wpC_callWith (P := (FC.hd.heap_39 w.params).In) rfl (keeps_K (by k_is)) (wpC_of ?_)
          k_steps
          rename News _ _ _ _ => N8
          refine' specC_use (specC_flush (x := x1) (dx := dx1) (b := b1) (h1 := h11) (h2 := h12) (h3 := h13) (k1 := k11) (k2 := k12) (k3 := k13) (tb := tb1) (tf := tf1) (news := (r1, W.listOf ys'.toArray cap') :: (I, o) :: (l2, W.listOf #[.int 0 ta, .int 1 tb] 0) :: (rl, W.listOf #[.ref r0, .ref r1] 0) :: (r0, W.listOf ys0.toArray c0) :: (wl, W.listOf #[.ref x0, .ref x1] 0) :: (x0, instObj 132 dx0) :: (dx0, wDict h01 h02 h03 k01 k02 k03 b0 bv0 tb0 fv0 tf0) :: (b0, baObj arr0) :: (mL, LCg.lst ysm) :: (nL, LCg.lst ysn) :: (s₁.heap.objs.size + 1 + 1, oc2) :: [(s₁.heap.objs.size + 1, oc1)]) (seps1a [(I, o), (l2, W.listOf #[.int 0 ta, .int 1 tb] 0)] AP (lt_two hI.2.1 hl2)) W1 (by omega)) ?k1 ?k2 ?k3 ?k4 ?k5 ?kK ?kd ?ku ?_
          case k1 => k_asm
          case k2 => k_asm
          case k3 => k_asm
          case k4 => exact cb_drop N8 (by walk_at "fc led")
          case k5 => k_asm
          case kK => exact rfl
          case kd => walk_at "fc room"
          case ku => walk_at "fc units"
          rintro r news' h' tk' F' N' ⟨arr', tb', tf', u', bits', ⟨n0, hn0, hb', h80⟩, rfl, W', rfl⟩
          have e0 : n0 = fillN bits1.length := fill_unique hn0 (by rw [hb', List.length_append, List.length_replicate] at h80; exact h80)
          subst e0
          subst hb'
          have parkC : ParkCall := trivial
          k_steps
          rename News _ _ _ _ => N8
          refine' spec_use (spec_octets (l := r1) (cap := cap') (ys := ys') (news := (x1, instObj 132 dx1) :: (dx1, wDict h11 h12 h13 k11 k12 k13 b1 0 tb' 0 tf') :: (b1, baObj arr') :: (I, o) :: (l2, W.listOf #[.int 0 ta, .int 1 tb] 0) :: (rl, W.listOf #[.ref r0, .ref r1] 0) :: (r0, W.listOf ys0.toArray c0) :: (wl, W.listOf #[.ref x0, .ref x1] 0) :: (x0, instObj 132 dx0) :: (dx0, wDict h01 h02 h03 k01 k02 k03 b0 bv0 tb0 fv0 tf0) :: (b0, baObj arr0) :: (mL, LCg.lst ysm) :: (nL, LCg.lst ysn) :: (s₁.heap.objs.size + 1 + 1, oc2) :: [(s₁.heap.objs.size + 1, oc1)]) I' hfb (by omega)) ?k1 ?k2 ?k3 ?k4 ?k5 ?kK ?kd ?ku ?_
          case k1 => k_asm
          case k2 => k_asm
          case k3 => k_asm
          case k4 => exact cb_drop N8 (by walk_at "fc led")
          case k5 => k_asm
          case kK => exact rfl
          case kd => walk_at "fc room"
          case ku => walk_at "fc units"
          rintro r news' h' tk' F' N' ⟨t9, rfl, rfl⟩
          k_steps
          · exfalso
            rename (_ != _) = true => hf
            rw [bne_self_eq_false] at hf
            cases hf
          · rename News _ _ _ _ => N7
            rename Fr _ _ _ _ => F7
            refine wpC_nil ?_
            dsimp only
            refine wpC_nil ?_
            exact TurnEnd.next (news' := [(l2, W.listOf #[.int 0 ta, .int 1 tb] 0), (rl, W.listOf #[.ref r0, .ref r1] 0), (r1, W.listOf ys'.toArray cap'), (r0, W.listOf ys0.toArray c0), (wl, W.listOf #[.ref x0, .ref x1] 0), (x1, instObj 132 dx1), (dx1, wDict h11 h12 h13 k11 k12 k13 b1 0 tb' 0 tf'), (b1, baObj arr'), (x0, instObj 132 dx0), (dx0, wDict h01 h02 h03 k01 k02 k03 b0 bv0 tb0 fv0 tf0), (b0, baObj arr0), (mL, LCg.lst ysm), (nL, LCg.lst ysn), (s₁.heap.objs.size + 1 + 1, oc2), (s₁.heap.objs.size + 1, oc1)]) F7 N7 (by walk_at "fc led") ⟨⟨_, frame1 rfl fun n e => by simp only [e, if_false]⟩, bits0, _, ys0, ys', c0, cap', arr0, arr', bv0, fv0, 0, 0, tb0, tf0, tb', tf', by omega, by omega, .inr (f0.resolve_left (by omega)), .inr h80, W0, W', I0, I', rfl⟩
        · cases hv
      case done2 =>
        intro m' news' h tk hJ F1 N1
        obtain ⟨⟨u, rfl⟩, bits0, bits1, ys0, ys1, c0, c1, arr0, arr1, bv0, fv0, bv1, fv1, tb0, tf0, tb1, tf1, z0, z1, f0, f1, W0, W1, I0, I1, rfl⟩ := hJ
        have f0 : bits0.length % 8 = 0 := f0.resolve_left (show ¬ 2 < 1 by decide)
        have f1 : bits1.length % 8 = 0 := f1.resolve_left (show ¬ 2 < 2 by decide)
        have z0 : bits0.length ≤ 840 + 10 * 2 := z0
        have z1 : bits1.length ≤ 840 + 10 * 2 := z1
        have N2 := cb_drop (news := (rl, W.listOf #[.ref r0, .ref r1] 0) :: (r1, W.listOf ys1.toArray c1) :: (r0, W.listOf ys0.toArray c0) :: (mL, LCg.lst ysm) :: (nL, LCg.lst ysn) :: (s₁.heap.objs.size + 1 + 1, oc2) :: [(s₁.heap.objs.size + 1, oc1)]) N1 (by walk_at "fc led")
        clear N1
        dsimp only
        refine wpC_consL ?_
        have parkC : ParkCall := trivial
        k_steps
        rename News _ _ _ _ => N8
        refine' spec_use (spec_octets (l := r0) (cap := c0) (ys := ys0) (bits := bits0) (news := (r1, W.listOf ys1.toArray c1) :: (rl, W.listOf #[.ref r0, .ref r1] 0) :: (mL, LCg.lst ysm) :: (nL, LCg.lst ysn) :: (s₁.heap.objs.size + 1 + 1, oc2) :: [(s₁.heap.objs.size + 1, oc1)]) I0 W0.1 (by omega)) ?k1 ?k2 ?k3 ?k4 ?k5 ?kK ?kd ?ku ?_
        case k1 => k_asm
        case k2 => k_asm
        case k3 => k_asm
        case k4 => exact cb_drop N8 (by walk_at "fc led")
        case k5 => k_asm
        case kK => exact rfl
        case kd => walk_at "fc room"
        case ku => walk_at "fc units"
        rintro r news' h' tk' F' N' ⟨t9, rfl, rfl⟩
        have parkC : ParkCall := trivial
        k_steps
        rename News _ _ _ _ => N8
        refine' spec_use (spec_newReader (bits := bits0) (news := (r0, W.listOf ys0.toArray c0) :: (r1, W.listOf ys1.toArray c1) :: (rl, W.listOf #[.ref r0, .ref r1] 0) :: (mL, LCg.lst ysm) :: (nL, LCg.lst ysn) :: (s₁.heap.objs.size + 1 + 1, oc2) :: [(s₁.heap.objs.size + 1, oc1)]) (octs_ints W0.1) f0 (by omega)) ?k1 ?k2 ?k3 ?k4 ?k5 ?kK ?kd ?ku ?_
        case k1 => k_asm
        case k2 => k_asm
        case k3 => k_asm
        case k4 => exact cb_drop N8 (by walk_at "fc led")
        case k5 => k_asm
        case kK => exact rfl
        case kd => walk_at "fc room"
        case ku => walk_at "fc units"
        rintro r news' h' tk' F' N' ⟨y0, dy0, g01, g02, g03, j01, j02, j03, ub0, un0, up0, rfl, rfl, l04, l05⟩
        k_lt l04
        have parkC : ParkCall := trivial
        k_steps
        rename News _ _ _ _ => N8
        refine' spec_use (spec_octets (l := r1) (cap := c1) (ys := ys1) (bits := bits1) (news := (r0, W.listOf ys0.toArray c0) :: (rl, W.listOf #[.ref r0, .ref r1] 0) :: (y0, instObj 167 dy0) :: (dy0, rDict g01 g02 g03 j01 j02 j03 (byteArr (octs bits0)) ub0 (bits0.length : Int) un0 ((0 : Nat) : Int) up0) :: (mL, LCg.lst ysm) :: (nL, LCg.lst ysn) :: (s₁.heap.objs.size + 1 + 1, oc2) :: [(s₁.heap.objs.size + 1, oc1)]) I1 W1.1 (by omega)) ?k1 ?k2 ?k3 ?k4 ?k5 ?kK ?kd ?ku ?_
        case k1 => k_asm
        case k2 => k_asm
        case k3 => k_asm
        case k4 => exact cb_drop N8 (by walk_at "fc led")
        case k5 => k_asm
        case kK => exact rfl
        case kd => walk_at "fc room"
        case ku => walk_at "fc units"
        rintro r news' h' tk' F' N' ⟨t9, rfl, rfl⟩
        have parkC : ParkCall := trivial
        k_steps
        rename News _ _ _ _ => N8
        refine' spec_use (spec_newReader (bits := bits1) (news := (r1, W.listOf ys1.toArray c1) :: (r0, W.listOf ys0.toArray c0) :: (rl, W.listOf #[.ref r0, .ref r1] 0) :: (y0, instObj 167 dy0) :: (dy0, rDict g01 g02 g03 j01 j02 j03 (byteArr (octs bits0)) ub0 (bits0.length : Int) un0 ((0 : Nat) : Int) up0) :: (mL, LCg.lst ysm) :: (nL, LCg.lst ysn) :: (s₁.heap.objs.size + 1 + 1, oc2) :: [(s₁.heap.objs.size + 1, oc1)]) (octs_ints W1.1) f1 (by omega)) ?k1 ?k2 ?k3 ?k4 ?k5 ?kK ?kd ?ku ?_
        case k1 => k_asm
        case k2 => k_asm
        case k3 => k_asm
        case k4 => exact cb_drop N8 (by walk_at "fc led")
        case k5 => k_asm
        case kK => exact rfl
        case kd => walk_at "fc room"
        case ku => walk_at "fc units"
        rintro r news' h' tk' F' N' ⟨y1, dy1, g11, g12, g13, j11, j12, j13, ub1, un1, up1, rfl, rfl, l14, l15⟩
        k_lt l14
        have parkC : ParkCall := trivial
        k_steps
        dsimp only
        refine wpC_cons (wpC_Assign (wpC_List (wpC_splicedCons (wpC_of ?_))))
        show wpAny _ _ (eval _ _) _ _ _
        k_steps
        refine wpC_splicedCons (wpC_of ?_)
        show wpAny _ _ (eval _ _) _ _ _
        k_steps
        refine wpC_splicedNil ?_
        k_steps
        dsimp only
        rename News _ _ _ _ => N9
        refine nm_rd N9 ?_
        clear N9
        intro plL p1 p0 rdL tq1 tq0 N9 e1 e2 e3 e4
        subst e1 e2 e3 e4
        have AR : RdAp plL p1 p0 rdL y1 dy1 y0 dy0 r1 r0 mL nL (s₁.heap.objs.size + 1 + 1) (s₁.heap.objs.size + 1) := by
          have AP' := AP
          unfold LawAp at AP'
          rename (y1 < rdL ∧ _) => q1
          rename (rdL < p0 ∧ _) => q2
          rename (p0 < p1 ∧ _) => q3
          rename (p1 < plL ∧ _) => q4
          exact ⟨by omega, by omega, by omega, by omega, by omega, l04.2.1, l05, l14.2.2.2.1, l15, q1.1, q2.1, q3.1, q4.1⟩
        have N2 := cb_drop (news := [(plL, W.listOf #[.ref p0, .ref p1] 0), (p1, W.listOf #[.ref r1, .int ((0 : Nat) : Int) tq1] 0), (p0, W.listOf #[.ref r0, .int ((0 : Nat) : Int) tq0] 0), (rdL, W.listOf #[.ref y0, .ref y1] 0), (y1, instObj 167 dy1), (dy1, rDict g11 g12 g13 j11 j12 j13 (byteArr (octs bits1)) ub1 (bits1.length : Int) un1 ((0 : Nat) : Int) up1), (y0, instObj 167 dy0), (dy0, rDict g01 g02 g03 j01 j02 j03 (byteArr (octs bits0)) ub0 (bits0.length : Int) un0 ((0 : Nat) : Int) up0), (r1, W.listOf ys1.toArray c1), (r0, W.listOf ys0.toArray c0), (mL, LCg.lst ysm), (nL, LCg.lst ysn), (s₁.heap.objs.size + 1 + 1, oc2), (s₁.heap.objs.size + 1, oc1)]) N9 (by walk_at "fc led")
        clear N9
        refine wpC_cons ?_
        refine wpS_C (exec_forS ?_)
        k_steps
        refine' forRangeN (K := tidyK) (n := 14) (J := fun m₁ n₁ i m' news' => (∃ u u', m' = fun y => if y = Str.ofString "k" then u else if y = Str.ofString "side" then u' else m₁ y) ∧ ∃ (q0 q1 : Nat) (tp0 tp1 tq0 tq1 : Tok) (cp0 cp1 : Nat), q0 ≤ bits0.length ∧ q1 ≤ bits1.length ∧
          news' = [(plL, W.listOf #[.ref p0, .ref p1] 0), (p1, W.listOf #[.ref r1, .int ((q1 : Nat) : Int) tq1] cp1), (p0, W.listOf #[.ref r0, .int ((q0 : Nat) : Int) tq0] cp0), (rdL, W.listOf #[.ref y0, .ref y1] 0), (y1, instObj 167 dy1), (dy1, rDict g11 g12 g13 j11 j12 j13 (byteArr (octs bits1)) ub1 (bits1.length : Int) un1 ((q1 : Nat) : Int) tp1), (y0, instObj 167 dy0), (dy0, rDict g01 g02 g03 j01 j02 j03 (byteArr (octs bits0)) ub0 (bits0.length : Int) un0 ((q0 : Nat) : Int) tp0), (r1, W.listOf ys1.toArray c1), (r0, W.listOf ys0.toArray c0), (mL, LCg.lst ysm), (nL, LCg.lst ysn), (s₁.heap.objs.size + 1 + 1, oc2), (s₁.heap.objs.size + 1, oc1)]) ?hh ?hK ?hKb ?hk ?hx ?hr ?F ?N ?hsm ?hn ?h0 ?sep ?turn3 ?done3
        case hh => exact rfl
        case hK => exact fun _ => rfl
        case hKb => exact rfl
        case hk => exact rfl
        case hx => exact rfl
        case hr => assumption
        case F => k_asm
        case N => k_asm
        case hsm => decide
        case hn => decide
        case h0 => exact ⟨⟨_, _, map2 fun _ _ _ => rfl⟩, 0, 0, up0, up1, tq0, tq1, 0, 0, by omega, by omega, rfl⟩
        case sep =>
          rintro I i m' news' hI _ ⟨_, _, _, _, _, _, _, _, _, _, _, rfl⟩
          exact sep_same hI rfl
        case turn3 =>
          intro I hI i tk o m' news' h tk' hi hJ F1 N1
          obtain ⟨⟨u9, u8, rfl⟩, q0, q1, tp0, tp1, tq0, tq1, cp0, cp1, hq0, hq1, rfl⟩ := hJ
          k_lt hI
          have hgi : 0 ≤ ms.getD (0 + (i : Int) * 1).toNat 0 := getD_nonneg hm0 _
          have hgd : 0 ≤ (ms.getD (0 + (i : Int) * 1).toNat 0).fdiv 7 := by rw [Int.fdiv_eq_ediv_of_nonneg _ (by decide)]; exact Int.ediv_nonneg hgi (by decide)
          refine wpS_of ?_
          have parkC : ParkCall := trivial
          k_steps
          · rename News _ _ _ _ => N8
            obtain ⟨e1, e2, e3, e4, e5, e6⟩ := seprd0 AR
            refine' spec0_use (spec_lawRead (x := y0) (dx := dy0) (pl := p0) (l := r0) (h1 := g01) (h2 := g02) (h3 := g03) (k1 := j01) (k2 := j02) (k3 := j03) (tb := ub0) (tn := un0) (tp := tp0) (tq := tq0) (cp := cp0) (cl' := c0) (bs := byteArr (octs bits0)) (bits := bits0) (ys := ys0) (p := q0) (news := (I, o) :: (plL, W.listOf #[.ref p0, .ref p1] 0) :: (p1, W.listOf #[.ref r1, .int ((q1 : Nat) : Int) tq1] cp1) :: (rdL, W.listOf #[.ref y0, .ref y1] 0) :: (y1, instObj 167 dy1) :: (dy1, rDict g11 g12 g13 j11 j12 j13 (byteArr (octs bits1)) ub1 (bits1.length : Int) un1 ((q1 : Nat) : Int) tp1) :: (r1, W.listOf ys1.toArray c1) :: (mL, LCg.lst ysm) :: (nL, LCg.lst ysn) :: (s₁.heap.objs.size + 1 + 1, oc2) :: [(s₁.heap.objs.size + 1, oc1)]) e1 e2 e3 e4 e5 e6 (seprd0d AR hI.1) (seprd0p AR hI.1) (octs_ints W0.1) W0.1 I0 f0 (by omega) hq0 hgd) ?k1 ?k2 ?k3 ?k4 ?k5 ?kXB ?kTB ?kK ?kd ?ku ?_
            case k1 => k_asm
            case k2 => k_asm
            case k3 => k_asm
            case k4 => exact cb_drop N8 (by walk_at "fc led")
            case k5 => k_asm
            case kXB => exact KX
            case kTB => exact T
            case kK => exact rfl
            case kd => walk_at "fc room"
            case ku => walk_at "fc units"
            rintro r news' h' tk' F' N' ⟨rfl, q', tp', tq', cp', hq', rfl⟩
            k_steps
            rename News _ _ _ _ => N7
            rename Fr _ _ _ _ => F7
            exact TurnEnd.next (news' := (plL, W.listOf #[.ref p0, .ref p1] 0) :: (p1, W.listOf #[.ref r1, .int ((q1 : Nat) : Int) tq1] cp1) :: (p0, W.listOf #[.ref r0, .int ((q' : Nat) : Int) tq'] cp') :: (rdL, W.listOf #[.ref y0, .ref y1] 0) :: (y1, instObj 167 dy1) :: (dy1, rDict g11 g12 g13 j11 j12 j13 (byteArr (octs bits1)) ub1 (bits1.length : Int) un1 ((q1 : Nat) : Int) tp1) :: (y0, instObj 167 dy0) :: (dy0, rDict g01 g02 g03 j01 j02 j03 (byteArr (octs bits0)) ub0 (bits0.length : Int) un0 ((q' : Nat) : Int) tp') :: (r1, W.listOf ys1.toArray c1) :: (r0, W.listOf ys0.toArray c0) :: (mL, LCg.lst ysm) :: (nL, LCg.lst ysn) :: (s₁.heap.objs.size + 1 + 1, oc2) :: [(s₁.heap.objs.size + 1, oc1)]) F7 N7 (by walk_at "fc led") ⟨⟨_, _, map2 fun n e1 e2 => by simp only [e1, e2, if_false]⟩, q', q1, tp', tp1, tq', tq1, cp', cp1, hq', hq1, rfl⟩
          · rename News _ _ _ _ => N8
            obtain ⟨e1, e2, e3, e4, e5, e6⟩ := seprd1 AR
            refine' spec0_use (spec_lawRead (x := y1) (dx := dy1) (pl := p1) (l := r1) (h1 := g11) (h2 := g12) (h3 := g13) (k1 := j11) (k2 := j12) (k3 := j13) (tb := ub1) (tn := un1) (tp := tp1) (tq := tq1) (cp := cp1) (cl' := c1) (bs := byteArr (octs bits1)) (bits := bits1) (ys := ys1) (p := q1) (news := (I, o) :: (plL, W.listOf #[.ref p0, .ref p1] 0) :: (p0, W.listOf #[.ref r0, .int ((q0 : Nat) : Int) tq0] cp0) :: (rdL, W.listOf #[.ref y0, .ref y1] 0) :: (y0, instObj 167 dy0) :: (dy0, rDict g01 g02 g03 j01 j02 j03 (byteArr (octs bits0)) ub0 (bits0.length : Int) un0 ((q0 : Nat) : Int) tp0) :: (r0, W.listOf ys0.toArray c0) :: (mL, LCg.lst ysm) :: (nL, LCg.lst ysn) :: (s₁.heap.objs.size + 1 + 1, oc2) :: [(s₁.heap.objs.size + 1, oc1)]) e1 e2 e3 e4 e5 e6 (seprd1d AR hI.1) (seprd1p AR hI.1) (octs_ints W1.1) W1.1 I1 f1 (by omega) hq1 hgd) ?k1 ?k2 ?k3 ?k4 ?k5 ?kXB ?kTB ?kK ?kd ?ku ?_
            case k1 => k_asm
            case k2 => k_asm
            case k3 => k_asm
            case k4 => exact cb_drop N8 (by walk_at "fc led")
            case k5 => k_asm
            case kXB => exact KX
            case kTB => exact T
            case kK => exact rfl
            case kd => walk_at "fc room"
            case ku => walk_at "fc units"
            rintro r news' h' tk' F' N' ⟨rfl, q', tp', tq', cp', hq', rfl⟩
            k_steps
            rename News _ _ _ _ => N7
            rename Fr _ _ _ _ => F7
            exact TurnEnd.next (news' := (plL, W.listOf #[.ref p0, .ref p1] 0) :: (p1, W.listOf #[.ref r1, .int ((q' : Nat) : Int) tq'] cp') :: (p0, W.listOf #[.ref r0, .int ((q0 : Nat) : Int) tq0] cp0) :: (rdL, W.listOf #[.ref y0, .ref y1] 0) :: (y1, instObj 167 dy1) :: (dy1, rDict g11 g12 g13 j11 j12 j13 (byteArr (octs bits1)) ub1 (bits1.length : Int) un1 ((q' : Nat) : Int) tp') :: (y0, instObj 167 dy0) :: (dy0, rDict g01 g02 g03 j01 j02 j03 (byteArr (octs bits0)) ub0 (bits0.length : Int) un0 ((q0 : Nat) : Int) tp0) :: (r1, W.listOf ys1.toArray c1) :: (r0, W.listOf ys0.toArray c0) :: (mL, LCg.lst ysm) :: (nL, LCg.lst ysn) :: (s₁.heap.objs.size + 1 + 1, oc2) :: [(s₁.heap.objs.size + 1, oc1)]) F7 N7 (by walk_at "fc led") ⟨⟨_, _, map2 fun n e1 e2 => by simp only [e1, e2, if_false]⟩, q0, q', tp0, tp', tq0, tq', cp0, cp', hq0, hq', rfl⟩
        case done3 =>
          intro m' news' h tk hJ F1 N1
          obtain ⟨⟨u9, u8, rfl⟩, q0, q1, tp0, tp1, tq0, tq1, cp0, cp1, hq0, hq1, rfl⟩ := hJ
          have N2 := cb_drop (news := (mL, LCg.lst ysm) :: (nL, LCg.lst ysn) :: (s₁.heap.objs.size + 1 + 1, oc2) :: [(s₁.heap.objs.size + 1, oc1)]) N1 (by walk_at "fc led")
          clear N1
          dsimp only
          refine wpC_cons (wpC_Assign (wpC_CallName ?_))
          k_steps
          refine wpC_callWith (P := (FC.hd.heap_39 w.params).In) rfl (keeps_K (by k_is)) (wpC_of ?_)
          k_steps
          refine' specC_use (specC_newWriter) ?k1 ?k2 ?k3 ?k4 ?k5 ?kK ?kd ?ku ?_
          case k1 => k_asm
          case k2 => k_asm
          case k3 => k_asm
          case k4 => walk_at "fc pick"
          case k5 => k_asm
          case kK => first | exact rfl | assumption
          case kd => walk_at "fc room"
          case ku => walk_at "fc units"
          rintro r news' h' tk' F' N' ⟨xh, dxh, bh, hh1, hh2, hh3, kh1, kh2, kh3, th2, th3, rfl, rfl, lh1, lh2, lh3⟩
          have SH := wsep_new lh1 lh2 lh3
          k_lt lh1
          k_steps
          dsimp only
          refine wpC_cons (wpC_Expr (wpC_CallName ?_))
          k_steps
          refine wpC_callWith (P := (FC.hd.heap_39 w.params).In) rfl (keeps_K (by k_is)) (wpC_of ?_)
          k_steps
          obtain ⟨v, hv⟩ : ∃ v, (ns.getD (Int.toNat 0) 0).fmod (2 ^ Int.toNat 23) = v := ⟨_, rfl⟩
          obtain ⟨hv0, hv1⟩ := held_range (ns.getD (Int.toNat 0) 0)
          rw [hv] at hv0 hv1
          obtain ⟨hb0, hb1⟩ := held_bound hv0 hv1
          rw [hv]
          refine' specC_use (specC_encode (h1 := hh1) (h2 := hh2) (h3 := hh3) (k1 := kh1) (k2 := kh2) (k3 := kh3) (tb := th2) (tf := th3) SH WRep.nil (show (0 : Int) ≤ 19 by decide) (by decide) hb0 hb1 (by decide)) ?k1 ?k2 ?k3 ?k4 ?k5 ?kK ?kd ?ku ?_
          case k1 => k_asm
          case k2 => k_asm
          case k3 => k_asm
          case k4 => walk_at "fc pick"
          case k5 => k_asm
          case kK => first | exact rfl | assumption
          case kd => walk_at "fc room"
          case ku => walk_at "fc units"
          rintro r news' h' tk' F' N' ⟨rfl, arr', bv', fv', tb', tf', W', rfl⟩
          refine ⟨rfl, ?_⟩
          rw [List.nil_append] at W'
          have hlh : (List.replicate (v.fdiv (2 ^ Int.toNat 19)).toNat (1 : Int) ++ [0] ++ bitsOf v 19).length < 100 := by
            rw [List.length_append, List.length_append, List.length_replicate, bitsOf_length, List.length_singleton]
            show _ + 1 + 19 < 100
            omega
          refine wpC_cons (wpC_If (wpC_isTrue_Compare (wpC_CallName ?_)))
          k_steps
          refine wpC_callWith (P := (FC.hd.heap_39 w.params).In) rfl (keeps_K (by k_is)) (wpC_splicedCons (wpC_CallName ?_))
          k_steps
          refine wpC_callWith (P := (FC.hd.heap_39 w.params).In) rfl (keeps_K (by k_is)) (wpC_splicedCons (wpC_CallMeth ?_))
          k_steps
          refine wpC_callWith (P := (FC.hd.heap_39 w.params).In) rfl (keeps_K (by k_is)) (wpC_of ?_)
          k_steps
          refine' specC_use (specC_flush (h1 := hh1) (h2 := hh2) (h3 := hh3) (k1 := kh1) (k2 := kh2) (k3 := kh3) (tb := tb') (tf := tf') SH W' (by omega)) ?k1 ?k2 ?k3 ?k4 ?k5 ?kK ?kd ?ku ?_
          case k1 => k_asm
          case k2 => k_asm
          case k3 => k_asm
          case k4 => walk_at "fc pick"
          case k5 => k_asm
          case kK => first | exact rfl | assumption
          case kd => walk_at "fc room"
          case ku => walk_at "fc units"
          rintro r news' h' tk' F' N' ⟨arr2, tb2, tf2, u2, bits2, ⟨n2, hn2, hb2, h82⟩, rfl, W2, rfl⟩
          subst hb2
          obtain ⟨g0, g1, g2, g3⟩ := held_plain (n := n2) hv0
          have hl2 : (List.replicate (v.fdiv (2 ^ Int.toNat 19)).toNat (1 : Int) ++ [0] ++ bitsOf v 19 ++ List.replicate n2 0).length < 200 := by rw [List.length_append, List.length_replicate]; omega
          generalize List.replicate (v.fdiv (2 ^ Int.toNat 19)).toNat (1 : Int) ++ [0] ++ bitsOf v 19 ++ List.replicate n2 0 = bh2 at *
          refine wpC_of ?_
          have parkC : ParkCall := trivial
          k_steps
          refine wpC_of ?_
          rename News _ _ _ _ => N8
          refine' spec_use (spec_newReader (bits := bh2) (news := (mL, LCg.lst ysm) :: (nL, LCg.lst ysn) :: (s₁.heap.objs.size + 1 + 1, oc2) :: [(s₁.heap.objs.size + 1, oc1)]) (octs_ints W2.1) h82 (by omega)) ?k1 ?k2 ?k3 ?k4 ?k5 ?kK ?kd ?ku ?_
          case k1 => k_asm
          case k2 => k_asm
          case k3 => k_asm
          case k4 => exact cb_drop N8 (by walk_at "fc led")
          case k5 => k_asm
          case kK => exact rfl
          case kd => walk_at "fc room"
          case ku => walk_at "fc units"
          rintro r news' h' tk' F' N' ⟨yh, dyh, gh1, gh2, gh3, jh1, jh2, jh3, ubh, unh, uph, rfl, rfl, ly1, ly2⟩
          refine wpC_of ?_
          have parkC : ParkCall := trivial
          k_steps
          refine wpC_of ?_
          rename News _ _ _ _ => N8
          refine' spec_use (spec_decodeOk (c := 19) (p := 0) (bits := bh2) (j0 := (v.fdiv (2 ^ Int.toNat 19)).toNat) (news := (mL, LCg.lst ysm) :: (nL, LCg.lst ysn) :: (s₁.heap.objs.size + 1 + 1, oc2) :: [(s₁.heap.objs.size + 1, oc1)]) (Nat.ne_of_gt ly2) (off_of_lt ly1) (octs_ints W2.1) W2.1 h82 (by omega) (Nat.zero_le _) (by decide) g0 g1 g2) ?k1 ?k2 ?k3 ?k4 ?k5 ?kK ?kd ?ku ?_
          case k1 => k_asm
          case k2 => k_asm
          case k3 => k_asm
          case k4 => exact cb_drop N8 (by walk_at "fc led")
          case k5 => k_asm
          case kK => exact rfl
          case kd => walk_at "fc room"
          case ku => walk_at "fc units"
          rintro r news' h' tk' F' N' ⟨t5, tp5, rfl, rfl⟩
          rw [g3]
          k_steps
          · exfalso
            rename (v ≠ _) => hf
            exact hf hv.symm
          · refine wpC_nil ?_
            dsimp only
            refine wpC_cons (wpC_Return (wpC_of ?_))
            have parkC : ParkCall := trivial
            k_steps
            rename News _ _ _ _ => N8
            refine' spec_use (spec_lawRanges (news := (mL, LCg.lst ysm) :: (nL, LCg.lst ysn) :: (s₁.heap.objs.size + 1 + 1, oc2) :: [(s₁.heap.objs.size + 1, oc1)]) (getD_nonneg hm0 _) (getD_nonneg hm0 _)) ?k1 ?k2 ?k3 ?k4 ?k5 ?kK ?kd ?ku ?_
            case k1 => k_asm
            case k2 => k_asm
            case k3 => k_asm
            case k4 => exact cb_drop N8 (by walk_at "fc led")
            case k5 => k_asm
            case kK => exact rfl
            case kd => walk_at "fc room"
            case ku => walk_at "fc units"
            rintro r news' h' tk' F' N' ⟨rfl, rfl⟩
            k_steps
  · exact triv_G hg (fun _ => rfl) (by first | rfl | wrow_post)
end
end FC
theorem PySem.Challenge.cw_fc5004_01_holds : PySem.Challenge.rw_fc5004_01.Holds := by
  exact FC.law_holds
