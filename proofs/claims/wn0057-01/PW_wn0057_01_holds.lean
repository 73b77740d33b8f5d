import PyProof.Rows.All
import Wide.All
import OpenK.AllK
import Wide.FinOn
import KE.BytesMulAny
import KE.BytesMake
import Lean
import PySem.Challenge.RW_wn0057_01
set_option Elab.async false
set_option maxRecDepth 100000
set_option linter.unusedVariables false
/-! W1 -/
section
open PySem PySem.W PyProof.Rows PySem.Calls
open Sem (wp)
namespace Mine
/-- codes whose being under way lends a bytearray's bytes: none of them stands in a calm stack -/
noncomputable def loud : List String := ["bytearray.__contains__", "bytearray.__mod__", "bytearray.__rmod__", "_struct.pack_into.held", "bytearray.find.held"] ++ Builtin.Bytes.decodersThatHold
noncomputable def calm : Code → Bool
  | .builtin id _ => !loud.contains id
  | _ => true
noncomputable def CalmΓ (Γ : Ctx) : Prop := calm Γ.code = true ∧ ∀ x ∈ Γ.below, calm x.1 = true
noncomputable def wpR {α : Type} (M : Model) (A : Around) (t : Sem α) (Q : α → Shared → Prop) (E : Value → Shared → Prop) (s : Shared) : Prop :=
  ∀ Γ p, Γ.In A → CalmΓ Γ → wp M Γ t (fun a _ s' => Q a s') (fun e _ s' => E e s') p s
noncomputable def codeR (M : Model) (A : Around) (c : Code) (R : Result → Shared → Prop) (s : Shared) : Prop :=
  ∀ Γ p, Γ.code = c → Γ.Below A → CalmΓ Γ → wpCode M Γ R p s
section
variable {α β : Type} {M : Model} {A : Around} {E : Value → Shared → Prop} {s : Shared}
theorem wpR_of {t : Sem α} {Q : α → Shared → Prop} (h : wpAny M A t Q E s) : wpR M A t Q E s := fun Γ p hΓ _ => h Γ p hΓ
theorem codeR_of {c : Code} {R : Result → Shared → Prop} (h : codeAny M A c R s) : codeR M A c R s := fun Γ p hc hΓ _ => h Γ p hc hΓ
theorem wpR_mono {t : Sem α} {Q Q' : α → Shared → Prop} {E' : Value → Shared → Prop} (h : wpR M A t Q E s) (hQ : ∀ a s, Q a s → Q' a s) (hE : ∀ e s, E e s → E' e s) : wpR M A t Q' E' s :=
  fun Γ p hΓ hc => Sem.wp_mono M Γ t (fun a _ s => hQ a s) (fun e _ s => hE e s) p s (h Γ p hΓ hc)
theorem wpR_pure {a : α} {Q : α → Shared → Prop} (h : Q a s) : wpR M A (pure a) Q E s := fun _ _ _ _ => h
theorem wpR_bind {m : Sem α} {f : α → Sem β} {Q : β → Shared → Prop} (h : wpR M A m (fun a s' => wpR M A (f a) Q E s') E s) : wpR M A (m >>= f) Q E s := fun Γ p hΓ hc => by
  rw [Sem.wp_bind']
  exact Sem.wp_mono M Γ m (fun a p' s' h' => h' Γ p' hΓ hc) (fun _ _ _ h' => h') p s (h Γ p hΓ hc)
/-- a part that wants no calm, then the rest -/
theorem wpR_first {m : Sem α} {f : α → Sem β} {Q : β → Shared → Prop} (h : wpAny M A m (fun a s' => wpR M A (f a) Q E s') E s) : wpR M A (m >>= f) Q E s := wpR_bind (wpR_of h)
theorem wpR_holding {vs : List Value} {m : Sem α} {Q : α → Shared → Prop} (h : wpR M A m Q E s) : wpR M A (holding vs m) Q E s := fun Γ p hΓ hc => by rw [Sem.wp_holding]; exact h Γ p hΓ hc
theorem wpR_keep {vs : List Value} {m : Sem α} {Q : α → Shared → Prop} (h : wpR M A m Q E s) : wpR M A (m.keep vs) Q E s := fun Γ p hΓ hc => by rw [Sem.wp_keep]; exact h Γ p hΓ hc
theorem wpR_standAt {pos : Pos} {Q : Unit → Shared → Prop} (h : Q () s) : wpR M A (standAt pos) Q E s := fun _ _ _ _ => h
theorem wpR_onRaise {m : Sem α} {k : Value → Sem Unit} {Q : α → Shared → Prop} (h : wpR M A m Q (fun e s' => wpR M A (k e) (fun _ s'' => E e s'') E s') s) : wpR M A (m.onRaise k) Q E s := fun Γ p hΓ hc => by
  rw [Sem.wp_onRaise]
  exact Sem.wp_mono M Γ m (fun _ _ _ h' => h') (fun e p' s' h' => h' Γ p' hΓ hc) p s (h Γ p hΓ hc)
theorem wpR_ite {c : Prop} [Decidable c] {a b : Sem α} {Q : α → Shared → Prop} (h : if c then wpR M A a Q E s else wpR M A b Q E s) : wpR M A (if c then a else b) Q E s := by split <;> simp_all
theorem wpR_of_eq {t : Sem α} {a : α} {Q : α → Shared → Prop} (e : t = pure a) (h : Q a s) : wpR M A t Q E s := by rw [e]; exact wpR_pure h
theorem wpR_operate {vs : List Value} {m : Sem Value} {Q : Value → Shared → Prop} (h : wpR M A m Q E s) : wpR M A (operate vs m) Q E s := fun Γ p hΓ hc => by rw [Sem.wp_operate]; exact h Γ p hΓ hc
theorem CalmΓ.enter {Γ : Ctx} (h : CalmΓ Γ) (c : Code) (hd : Option Value) (p : Pos) (hc : calm c = true) : CalmΓ (Γ.enter c hd p) := ⟨hc, fun x hx => by
  rcases List.mem_cons.mp hx with rfl | hx
  · exact h.1
  · exact h.2 x hx⟩
theorem wpR_runValue {c : Code} {Q : Value → Shared → Prop} (cc : calm c = true) (hc : codeR M A c (fun r s' => match r with | .ok (.ret v) => Q v s' | .ok _ => False | .error e => E e s') s) : wpR M A (runValue c) Q E s := fun Γ p hΓ hcm => by
  rw [Sem.wp_runValue]; exact hc _ p rfl (hΓ.enter c none p (by intro x; cases x)) (hcm.enter c none p cc)
theorem wpR_call {f : Value} {pos : List Value} {kw : List (Str × Value)} {Q : Value → Shared → Prop}
    (hc : codeR M A (.call f ⟨pos, kw⟩) (fun r s' => match r with | .ok (.ret v) => Q v s' | .ok _ => False | .error e => E e s') s) : wpR M A (PySem.call f pos kw) Q E s := wpR_runValue rfl hc
theorem codeR_of_tree {c : Code} {R : Result → Shared → Prop}
    (h : wpR M (A.under c) (M.den c) (fun fin s' => match fin with | .done f => R (.ok f) s' | .again c' => c'.quiet = true ∧ calm c' = true ∧ codeR M A c' R s') (fun e s' => R (.error e) s') s) : codeR M A c R s := fun Γ p hc hΓ hcm => by
  rw [wpCode_iff_wp, hc]
  refine Sem.wp_mono M Γ _ (fun fin p' s' h' => ?_) (fun _ _ _ h' => h') p s (h Γ p (hc ▸ hΓ.in) hcm)
  cases fin with
  | done f => exact h'
  | again c' => exact ⟨h'.1, h'.2.2 (Γ.goto c') p' rfl (hΓ.goto c') ⟨h'.2.1, hcm.2⟩⟩
theorem codeR_mono {c : Code} {R R' : Result → Shared → Prop} (h : codeR M A c R s) (hR : ∀ r s, R r s → R' r s) : codeR M A c R' s := fun Γ p hc hΓ hcm => wpCode_mono hR (h Γ p hc hΓ hcm)
theorem wpR_stack {Q : List (Code × Pos) → Shared → Prop} (h : ∀ st : List (Code × Pos), (∀ x ∈ st, calm x.1 = true) → Q st s) : wpR M A stack Q E s := fun Γ p hΓ hcm => by
  show Q ((Γ.code, p) :: Γ.below) s
  refine h _ fun x hx => ?_
  rcases List.mem_cons.mp hx with rfl | hx
  · exact hcm.1
  · exact hcm.2 x hx
end
end Mine
end
/-! H1 -/
section
open PySem PySem.W PyProof.Rows PySem.Calls
open Sem (wp)
namespace Mine
/-- the thread of the claim's caller: its stack is calm, so a calm proof will do -/
theorem caller_calm : CalmΓ ⟨.builtin "claim.caller" {}, none, none, [], none⟩ := ⟨by decide +kernel, fun _ h => nomatch h⟩
theorem thread_R {prog : Program} {w : World} {t : Sem Fin} {s : Shared} {R : Result → Shared → Prop} (hreg : s.asleep)
    (h : wpR (model prog w) callerA t (fun fin s' => ∃ f, fin = .done f ∧ R (.ok f) s' ∧ AllBare s'.gens) (fun e s' => R (.error e) s' ∧ AllBare s'.gens) s) :
    ∃ n r s' s'', runN (denote table) prog w n s ⟨t, .builtin "claim.caller" {}, default, []⟩ = .halted (outcomeOf r) s' ∧
      schedN (denote table) prog w n (.single s ⟨t, .builtin "claim.caller" {}, default, []⟩) = .halted (outcomeOf r) s' ∧ s'.forget = s''.forget ∧ R r s'' := by
  obtain ⟨n, r, a, b, hs, hn, hfo, hR⟩ := wp_halts_full (M := model prog w) (R := R) (p := default) (c := .builtin "claim.caller" {}) hreg
    (Sem.wp_mono _ _ _ (fun fin p' s' (h' : ∃ f, fin = .done f ∧ R (.ok f) s' ∧ AllBare s'.gens) => by
      obtain ⟨f, rfl, x, y⟩ := h'
      exact ⟨x, leftWithCleanup_false_of_bare y⟩) (fun e _ s' (h' : R (.error e) s' ∧ AllBare s'.gens) => ⟨h'.1, leftWithCleanup_false_of_bare h'.2⟩) default s (h _ default caller_in caller_calm))
  exact ⟨n, r, b, a, hn, hs, hfo, hR⟩
/-- what is to be walked, in a calm stack -/
noncomputable abbrev WalkR (q : Program) (loose : List Str) (XP : (Str → Option Value) → Heap → Prop) (YP : World → Heap → Prop) (r : RowW) (d : DefRec) (kwd : List (Str × Expr)) (run : Value → List Value → Sem Value) : Prop :=
  ∀ (w : World) (s₀ s₁ : Shared) (mg mb : Str → Option Value), Ground q loose r.records XP w s₀ mg mb s₁.heap → YP w s₁.heap → ∀ (a : Addr) (o : Obj) (pm cd doc dV kV : Value), s₁.heap.get? a = some o →
    o.data = .func { docDef d.name d.params d.body d.scope pm cd doc with defaults := dV, kwdefaults := kV } → s₁.heap.CodeRec cd d.name → Dflts mg s₁.heap d.params kwd dV kV → mg d.name = some (.ref a) → s₁.gens = #[] →
    ∀ (args : List WData) (vals : List Value) (as : List Addr), r.claim.pre args = true → WData.layableAll args = true → ReadsAllW r.records (classAt s₀.heap) s₁.heap vals args as → WellAll w.params s₁.heap vals args → (∀ a ∈ as, (a == sysModules) = false) →
      wpR (model r.prog w) callerA (run (.ref a) vals) (fun v s' => GoodWG r.claim (classAt s₀.heap) (ExcName.means s₀.heap) args s₁ (.ok (.ret v)) s')
        (fun e s' => GoodWG r.claim (classAt s₀.heap) (ExcName.means s₀.heap) args s₁ (.error e) s') s₁
/-- what the claim asks of an end -/
noncomputable def EndOk (r : OpenRow) (s s₁ : Shared) (args : List WData) (vs : List Value) (res : Result) (t : Shared) : Prop :=
  r.toRowW.claim.Ends s args vs s₁ res t ∧ t.os = s.os ∧ (r.writes = true → namesKept r.prog r.keeps s.heap t.heap ∧ ∀ x ∈ r.records, ∀ a, classAt s.heap x.1 = some a → recordClass t.heap a x.1 (x.2.map (·.1)) = true)
theorem pinned_name {c : Bool} {n m : Str} (h : n ∈ (if c = true then [m] else [])) : n = m := by
  cases c with
  | true => exact List.mem_singleton.mp h
  | false => exact nomatch h
theorem PySem.W.holds_open {r : OpenRow} {q : Program} {loose : List Str} {Xt : Shared → Bool} {XP : (Str → Option Value) → Heap → Prop} {α : Type} {Yf : Shared → α} {Ya : World → α} {YP : World → Heap → Prop} {d : DefRec} {kwd : List (Str × Expr)} {N : Nat}
    (left : LeftO r.prog q loose Xt Yf Ya N) (hY : ∀ w s, Yf s = Ya w → YP w s.heap) (hYk : ∀ w h h', YP w h → (∀ b o, h.get? b = some o → h'.get? b = some o) → YP w h')
    (hX : ∀ s, Xt s = true → XP (s.heap.nsMap mainGlobals) s.heap) (hXk : ∀ mg h h', XP mg h → (∀ b o, h.get? b = some o → h'.get? b = some o) → XP mg h')
    (hdef : defOf q r.name = some (d, kwd)) (hp : r.prog.theDef r.name = some (d.params, d.body, d.scope)) (hk : kwWritten? d.params.kwonlyargs d.params.kw_defaults = some kwd) (hRf : ∀ s, Xt s = true → RecFacts r.records s.heap) (hwr : (!r.writes || r.records.isEmpty) = true)
    (k1 : r.wellSaid = true) (ok : (chainsOk q && opensWell r.prog && (frees r.toRowW && r.within.isEmpty)) = true) (hb : r.prog.bare) (hw : r.toRowW.promised)
    (call : WalkR q loose XP YP r.toRowW d kwd fun f vs => PySem.call f vs) : r.Holds := by
  obtain ⟨ok, free⟩ := Bool.and_eq_true_iff.mp ok
  obtain ⟨chains, well⟩ := Bool.and_eq_true_iff.mp ok
  obtain ⟨free, within⟩ := Bool.and_eq_true_iff.mp free
  obtain ⟨hsame, hu, ha, hap, hm⟩ := frees_parts free
  refine ⟨k1, hw, ⟨hb, well, by show r.toRowW.makers.map _ = []; rw [hm]; rfl⟩, hw.witness, fun w => ?_⟩
  have top := left.behind (XP := fun mg h => XP mg h ∧ RecFacts r.records h) (fun s x => ⟨hX s x, hRf s x⟩) chains w
  refine ⟨top.1, fun s' after => ?_⟩
  obtain ⟨s₀, fence, none0, s, ran, sleeps, nogens, isns, G', y⟩ := top.2 s' after
  have G0 : Ground q loose [] XP w s (s.heap.nsMap mainGlobals) (s.heap.nsMap builtinsNs) s.heap := { G' with X := G'.X.1 }
  have RF := G'.X.2
  refine ⟨s₀, fence, none0, s, ran, fun n hn => ?_, RF.1, RF.2.1, ?_⟩
  · rw [pinned_name hn]
    exact pinned_of_view isns G0 hdef hp hk
  have nog : s.gens = #[] := Array.eq_empty_of_size_eq_zero (beq_iff_eq.mp nogens)
  have G : Ground q loose r.records XP w s _ _ s.heap := RF.ground G0
  intro args pre lay ord hord
  obtain ⟨⟨vs, s₁⟩, hlaid⟩ := Option.isSome_iff_exists.mp (layAllW_isSome (P := w.params) (ord := ord) G.has args r.toRowW.args s (pre_splitW pre).1)
  have keeps := layAllW_keeps _ _ _ hlaid
  have rest := layAllW_rest _ _ _ hlaid
  obtain ⟨as, hrd, hin, hold⟩ := reads_layAllW hord _ _ _ hlaid lay s₁.heap (fun _ _ e => e)
  have L : Laid r.records w s s₁ args vs as := ⟨⟨ord, hord, hlaid⟩, hrd, hin, hold, keeps, rest.1.trans nog, rest.2.2.1⟩
  have G₁ := G.keeps hXk keeps
  have Y₁ : YP w s₁.heap := hYk _ _ _ (hY w s y) keeps
  obtain ⟨f, o, pm, cd, doc, dV, kV, f1, f2, f3, f4, f5⟩ := G₁.fn hdef
  have walk := call w s s₁ _ _ G₁ Y₁ f o pm cd doc dV kV f2 f3 f4 f5 (defOf_name hdef ▸ f1) L.gens args vs as pre lay L.reads L.well (L.low G.low)
  have hi := ident_freeW hu ha hap
  have hwi : r.toRowW.claim.within = [] := List.isEmpty_iff.mp within
  have fin : ∀ res t, GoodWG r.toRowW.claim (classAt s.heap) (ExcName.means s.heap) args s₁ res t →
      EndOk r s s₁ args vs res t ∧ AllBare t.gens := fun res t g => by
    have z := g.laid (c := r.toRowW.claim) hsame hwi hi L
    exact ⟨⟨z.1, z.2.1, fun q => ⟨namesKept_of ran isns _ keeps g.2.1.old, noTable hwr q⟩⟩, z.2.2⟩
  have walked : wpR (model r.prog w) callerA (do match ← nsGet mainNs r.name with | some f => do ret (← PySem.call f vs) | none => unsupported "claim.caller:no-such-global")
      (fun fin s' => ∃ f, fin = .done f ∧ EndOk r s s₁ args vs (.ok f) s' ∧ AllBare s'.gens)
      (fun e s' => EndOk r s s₁ args vs (.error e) s' ∧ AllBare s'.gens) s₁ := by
    refine wpR_first (wpAny_nsGet G₁.T.g ?_)
    rw [f1]
    exact wpR_bind (wpR_mono walk (fun v s' g => wpR_pure ⟨_, rfl, fin _ _ g⟩) fun e s' g => fin _ _ g)
  obtain ⟨k, res, s', s'', hrun, hsched, hfo, hcase, hos, hkp⟩ := thread_R (R := EndOk r s s₁ args vs) (Shared.asleep_of_life rest.2.2.2 sleeps) walked
  obtain ⟨eh, _, _, eo, _⟩ := Shared.forget_eq hfo
  have hcase := hcase.congr eh
  rw [← eh] at hkp
  rw [← eo] at hos
  have hlife : s'.heap.life = s.heap.life := (runN_life _ _ _ hrun).trans rest.2.2.2
  refine ⟨vs, s₁, hlaid, k, _, s', hsched, ?_, (fun _ i x hx => by rw [nog] at hx; simp at hx), hkp, by rw [hlife], Shared.rest_eq hos⟩
  rcases hcase with ⟨v, rfl, d1, d2, d3, d4, d5⟩ | ⟨e, ob, cls, rfl, d1, d2, d3, d4, d5⟩
  · exact .inl ⟨v, rfl, d1, d2, d3, fun b o y _ => d4 b o y, d5⟩
  · exact .inr ⟨e, ob, cls, rfl, d1, d2, d3, d4, fun b o y _ => d5 b o y⟩
end Mine
end
/-! Hd -/
section
open PySem PySem.W PyProof.Rows
namespace Mine
set_option maxHeartbeats 8000000 in
open_top hd for PySem.Challenge.rw_wn0057_01
end Mine
end
/-! M1 -/
section
open PySem PySem.W PyProof.Rows PySem.Calls
namespace Mine

/-! Abstract states: g, what stays; k, what may turn; both parts of the heap. -/
noncomputable abbrev Bs := Addr → Option Obj
noncomputable abbrev Mp := Str → Option Value
noncomputable def SubB (g g' : Bs) : Prop := ∀ b o, g b = some o → g' b = some o
noncomputable def LeB (g : Bs) (h : Heap) : Prop := ∀ b o, g b = some o → h.get? b = some o
noncomputable def LeH (h h' : Heap) : Prop := ∀ b o, h.get? b = some o → h'.get? b = some o
noncomputable abbrev nE : Value → Shared → Prop := fun _ _ => False

theorem LeH.refl {h : Heap} : LeH h h := fun _ _ e => e
theorem LeH.trans {h h' h'' : Heap} (a : LeH h h') (b : LeH h' h'') : LeH h h'' := fun x o e => b x o (a x o e)
theorem LeB.trans {g : Bs} {h h' : Heap} (a : LeB g h) (b : LeH h h') : LeB g h' := fun x o e => b x o (a x o e)
theorem SubB.refl {g : Bs} : SubB g g := fun _ _ e => e
theorem SubB.trans {g g' g'' : Bs} (a : SubB g g') (b : SubB g' g'') : SubB g g'' := fun x o e => b x o (a x o e)
theorem LeH.push {h : Heap} (o : Obj) : LeH h (h.push o) := fun _ _ e => Heap.get?_push_of_some _ e

structure St (L : Addr) (g k : Bs) (m : Mp) (h : Heap) : Prop where
  ns : h.Ns L m
  leg : LeB g h
  lek : LeB k h
  dis : ∀ b o, g b = some o → k b = none
  offg : g L = none
  offk : k L = none

/-- a growth of the standing part; all that lay lies -/
structure Gr (g : Bs) (h : Heap) (g' : Bs) (h' : Heap) : Prop where
  sub : SubB g g'
  leg : LeB g' h'
  leh : LeH h h'
  new : ∀ b o, g' b = some o → g b = none → h.get? b = none

theorem Gr.refl {g : Bs} {h : Heap} (x : LeB g h) : Gr g h g h := ⟨.refl, x, .refl, fun b o e n => by rw [n] at e; cases e⟩
theorem Gr.leH {g : Bs} {h h' : Heap} (x : LeB g h) (y : LeH h h') : Gr g h g h' := ⟨.refl, x.trans y, y, fun b o e n => by rw [n] at e; cases e⟩
theorem Gr.trans {g g' g'' : Bs} {h h' h'' : Heap} (a : Gr g h g' h') (b : Gr g' h' g'' h'') : Gr g h g'' h'' := by
  refine ⟨a.sub.trans b.sub, b.leg, a.leh.trans b.leh, fun x o e n => ?_⟩
  cases q : g' x with
  | some o' => exact a.new x o' q n
  | none =>
    have := b.new x o e q
    cases r : h.get? x with
    | none => rfl
    | some o' => rw [a.leh x o' r] at this; cases this
theorem ns_some {h : Heap} {L : Addr} {m : Mp} (x : h.Ns L m) : ∃ o, h.get? L = some o := let ⟨o, _, _, e, _⟩ := x; ⟨o, e⟩
theorem St.grow {L : Addr} {g k g' : Bs} {m : Mp} {h h' : Heap} (x : St L g k m h) (y : Gr g h g' h') : St L g' k m h' := by
  obtain ⟨oL, hL⟩ := ns_some x.ns
  refine ⟨x.ns.keeps y.leh, y.leg, x.lek.trans y.leh, fun b o e => ?_, ?_, x.offk⟩
  · cases q : g b with
    | some o' => exact x.dis b o' q
    | none =>
      have := y.new b o e q
      cases r : k b with
      | none => rfl
      | some o' => rw [x.lek b o' r] at this; cases this
  · cases q : g' L with
    | none => rfl
    | some o => have := y.new L o q x.offg; rw [hL] at this; cases this
theorem St.leH {L : Addr} {g k : Bs} {m : Mp} {h h' : Heap} (x : St L g k m h) (y : LeH h h') : St L g k m h' := x.grow (.leH x.leg y)
theorem St.less {L : Addr} {g k g' : Bs} {m : Mp} {h : Heap} (x : St L g' k m h) (y : SubB g g') : St L g k m h := by
  refine ⟨x.ns, fun b o e => x.leg b o (y b o e), x.lek, fun b o e => x.dis b o (y b o e), ?_, x.offk⟩
  cases q : g L with
  | none => rfl
  | some o => have := y L o q; rw [x.offg] at this; cases this

/-! plain data, and how a heap bears it -/
inductive D where
  | none
  | bool (b : Bool)
  | int (i : Int)
  | str (x : Str)
  | bytes (b : Array UInt8)
  | tup (l : List D)
  | lst (l : List D)
  | dct (l : List (Str × Int))

noncomputable def lstO (vs : List Value) (n : Nat) : Obj := { cls := .type "list", data := .seq vs.toArray n }
noncomputable def tupO (vs : List Value) : Obj := { cls := .type "tuple", data := .seq vs.toArray }
/-- a dict's entries: strs as keys -/
noncomputable def IsDct (prog : Program) (w : World) (o : Obj) (kvs : List (Str × Value)) : Prop :=
  ∃ es ep, o.ExactDict ∧ o.data = .dict es ep ∧ PySem.KeysOf (PySem.strKind prog w) es ∧ Pairs (PySem.strKind prog w) es.toList kvs ∧ (kvs.map (·.1)).Nodup
noncomputable def IntV : List (Str × Value) → List (Str × Int) → Prop
  | [], [] => True
  | a :: r, b :: q => a.1 = b.1 ∧ (∃ t, a.2 = .int b.2 t) ∧ IntV r q
  | _, _ => False

mutual
inductive Rp (prog : Program) (w : World) (g : Bs) : Value → D → Prop
  | none : Rp prog w g .none .none
  | bool (b : Bool) : Rp prog w g (.bool b) (.bool b)
  | int (i : Int) (t : Tok) : Rp prog w g (.int i t) (.int i)
  | str (x : Str) (t : Tok) : Rp prog w g (.str x t) (.str x)
  | bytes (b : Array UInt8) (t : Tok) : Rp prog w g (.bytes b t) (.bytes b)
  | tup {a : Addr} {vs : List Value} {ds : List D} : g a = some (tupO vs) → RpL prog w g vs ds → Rp prog w g (.ref a) (.tup ds)
  | lst {a : Addr} {vs : List Value} {n : Nat} {ds : List D} : g a = some (lstO vs n) → RpL prog w g vs ds → Rp prog w g (.ref a) (.lst ds)
  | dct {a : Addr} {o : Obj} {kvs : List (Str × Value)} {ds : List (Str × Int)} : g a = some o → IsDct prog w o kvs → IntV kvs ds → Rp prog w g (.ref a) (.dct ds)
inductive RpL (prog : Program) (w : World) (g : Bs) : List Value → List D → Prop
  | nil : RpL prog w g [] []
  | cons {v : Value} {d : D} {vs : List Value} {ds : List D} : Rp prog w g v d → RpL prog w g vs ds → RpL prog w g (v :: vs) (d :: ds)
end
mutual
theorem Rp.mono {prog : Program} {w : World} {g g' : Bs} (s : SubB g g') : ∀ {v : Value} {d : D}, Rp prog w g v d → Rp prog w g' v d
  | _, _, .none => .none
  | _, _, .bool b => .bool b
  | _, _, .int i t => .int i t
  | _, _, .str x t => .str x t
  | _, _, .bytes b t => .bytes b t
  | _, _, .tup e r => .tup (s _ _ e) (r.mono s)
  | _, _, .lst e r => .lst (s _ _ e) (r.mono s)
  | _, _, .dct e r q => .dct (s _ _ e) r q
theorem RpL.mono {prog : Program} {w : World} {g g' : Bs} (s : SubB g g') : ∀ {vs : List Value} {ds : List D}, RpL prog w g vs ds → RpL prog w g' vs ds
  | _, _, .nil => .nil
  | _, _, .cons a r => .cons (a.mono s) (r.mono s)
end
theorem RpL.length {prog : Program} {w : World} {g : Bs} : ∀ {vs : List Value} {ds : List D}, RpL prog w g vs ds → vs.length = ds.length
  | _, _, .nil => rfl
  | _, _, .cons _ r => by rw [List.length_cons, List.length_cons, r.length]
theorem RpL.append {prog : Program} {w : World} {g : Bs} {ws : List Value} {es : List D} (b : RpL prog w g ws es) : ∀ {vs : List Value} {ds : List D}, RpL prog w g vs ds → RpL prog w g (vs ++ ws) (ds ++ es)
  | _, _, .nil => b
  | _, _, .cons a r => .cons a (RpL.append b r)
theorem RpL.get {prog : Program} {w : World} {g : Bs} : ∀ {vs : List Value} {ds : List D}, RpL prog w g vs ds → ∀ {i : Nat} {d : D}, ds[i]? = some d → ∃ v, vs[i]? = some v ∧ Rp prog w g v d
  | _, _, .nil, _, _, e => by cases e
  | _, _, .cons a r, 0, _, e => by cases e; exact ⟨_, rfl, a⟩
  | _, _, .cons a r, i + 1, _, e => r.get (i := i) e
theorem RpL.getV {prog : Program} {w : World} {g : Bs} : ∀ {vs : List Value} {ds : List D}, RpL prog w g vs ds → ∀ {i : Nat} {v : Value}, vs[i]? = some v → ∃ d, ds[i]? = some d ∧ Rp prog w g v d
  | _, _, .nil, _, _, e => by cases e
  | _, _, .cons a r, 0, _, e => by cases e; exact ⟨_, rfl, a⟩
  | _, _, .cons a r, i + 1, _, e => r.getV (i := i) e
theorem RpL.len {prog : Program} {w : World} {g : Bs} {vs : List Value} {ds : List D} (r : RpL prog w g vs ds) : vs.toArray.size = ds.length := by rw [List.size_toArray]; exact r.length

section
variable (prog : Program) (w : World) (A : Around) (env : Env) (g k : Bs) (m : Mp)
/-- an expression that changes nothing that stands -/
noncomputable def EP (e : Expr) (R : Value → Prop) : Prop :=
  ∀ (s : Shared) (Q : Value → Shared → Prop), St env.locals g k m s.heap → (∀ v h' tk, LeH s.heap h' → R v → Q v { s with heap := h', toks := tk }) → wpAny (model prog w) A (eval e env) Q nE s
/-- an expression that may lay new things -/
noncomputable def EV (e : Expr) (R : Bs → Value → Prop) : Prop :=
  ∀ (s : Shared) (Q : Value → Shared → Prop), St env.locals g k m s.heap → (∀ g' v h' tk, Gr g s.heap g' h' → R g' v → Q v { s with heap := h', toks := tk }) → wpAny (model prog w) A (eval e env) Q nE s
/-- expressions in their order -/
noncomputable def EL (es : List Expr) (R : Bs → List Value → Prop) : Prop :=
  ∀ (pos : Pos) (s : Shared) (Q : List Value → Shared → Prop), St env.locals g k m s.heap → (∀ g' vs h' tk, Gr g s.heap g' h' → R g' vs → Q vs { s with heap := h', toks := tk }) →
    wpAny (model prog w) A (spliced (backTo pos (starEach es env))) Q nE s
/-- the outcome of statements: what stands, what may turn, the names, the flow -/
structure Ext (L : Addr) (g k : Bs) (h : Heap) (g' k' : Bs) (m' : Mp) (h' : Heap) : Prop where
  st : St L g' k' m' h'
  sub : SubB g g'
  pres : ∀ b o, h.get? b = some o → k b = none → b ≠ L → h'.get? b = some o
  newg : ∀ b o, g' b = some o → g b = none → h.get? b = none ∨ (k b).isSome
  newk : ∀ b o, k' b = some o → k b = none → h.get? b = none
noncomputable def EX (ss : List Stmt) (R : Bs → Bs → Mp → Flow → Prop) : Prop :=
  ∀ (s : Shared) (Q : Flow → Shared → Prop), St env.locals g k m s.heap → (∀ f g' k' m' h' tk, Ext env.locals g k s.heap g' k' m' h' → R g' k' m' f → Q f { s with heap := h', toks := tk }) → wpAny (model prog w) A (execs ss env) Q nE s
noncomputable def E1 (st : Stmt) (R : Bs → Bs → Mp → Flow → Prop) : Prop :=
  ∀ (s : Shared) (Q : Flow → Shared → Prop), St env.locals g k m s.heap → (∀ f g' k' m' h' tk, Ext env.locals g k s.heap g' k' m' h' → R g' k' m' f → Q f { s with heap := h', toks := tk }) → wpAny (model prog w) A (exec st env) Q nE s
end

theorem Ext.refl {L : Addr} {g k : Bs} {m : Mp} {h : Heap} (x : St L g k m h) : Ext L g k h g k m h :=
  ⟨x, .refl, fun _ _ e _ _ => e, fun b o e n => (by rw [n] at e; cases e), fun b o e n => (by rw [n] at e; cases e)⟩
theorem Ext.grow {L : Addr} {g k g' : Bs} {m : Mp} {h h' : Heap} (x : St L g k m h) (y : Gr g h g' h') : Ext L g k h g' k m h' :=
  ⟨x.grow y, y.sub, fun b o e _ _ => y.leh b o e, fun b o e n => .inl (y.new b o e n), fun b o e n => by rw [n] at e; cases e⟩
theorem Ext.trans {L : Addr} {g k g' k' g'' k'' : Bs} {m' m'' : Mp} {h h' h'' : Heap} (a : Ext L g k h g' k' m' h') (b : Ext L g' k' h' g'' k'' m'' h'') (hL : ∃ o, h.get? L = some o) (ok : k L = none) (og : g L = none) : Ext L g k h g'' k'' m'' h'' := by
  have kept : ∀ x o, h.get? x = some o → k x = none → k' x = none := fun x o e n => by
    cases q : k' x with
    | none => rfl
    | some o' => have := a.newk x o' q n; rw [e] at this; cases this
  refine ⟨b.st, a.sub.trans b.sub, fun x o e n nl => b.pres x o (a.pres x o e n nl) (kept x o e n) nl, fun x o e n => ?_, fun x o e n => ?_⟩
  · cases q : g' x with
    | some o' => exact a.newg x o' q n
    | none =>
      rcases b.newg x o e q with r | r
      · cases t : h.get? x with
        | none => exact .inl rfl
        | some o' =>
          cases u : k x with
          | some _ => exact .inr rfl
          | none =>
            by_cases hx : x = L
            · subst hx
              have := b.st.offg
              rw [e] at this; cases this
            · rw [a.pres x o' t u hx] at r; cases r
      · cases u : k x with
        | some _ => exact .inr rfl
        | none =>
          obtain ⟨o', ho'⟩ := Option.isSome_iff_exists.mp r
          exact .inl (a.newk x o' ho' u)
  · cases q : k' x with
    | some o' => exact a.newk x o' q n
    | none =>
      have r := b.newk x o e q
      cases t : h.get? x with
      | none => rfl
      | some o' =>
        by_cases hx : x = L
        · subst hx
          have := b.st.offk
          rw [e] at this; cases this
        · rw [a.pres x o' t n hx] at r; cases r
end Mine
end
/-! M2 -/
section
open PySem PySem.W PyProof.Rows PySem.Calls
namespace Mine
noncomputable abbrev isI (i : Int) : Value → Prop := fun v => ∃ t, v = .int i t
noncomputable abbrev isS (x : Str) : Value → Prop := fun v => ∃ t, v = .str x t
noncomputable abbrev isY (b : Array UInt8) : Value → Prop := fun v => ∃ t, v = .bytes b t
noncomputable abbrev isB (b : Bool) : Value → Prop := fun v => v = .bool b
noncomputable abbrev isV (x : Value) : Value → Prop := fun v => v = x

section
variable {prog : Program} {w : World} {A : Around} {env : Env} {g k : Bs} {m : Mp}

theorem EP.mono {e : Expr} {R R' : Value → Prop} (h : EP prog w A env g k m e R) (hr : ∀ v, R v → R' v) : EP prog w A env g k m e R' :=
  fun s Q S hq => h s Q S fun v h' tk l r => hq v h' tk l (hr v r)
theorem EP.toV {e : Expr} {R : Value → Prop} (h : EP prog w A env g k m e R) : EV prog w A env g k m e (fun _ v => R v) :=
  fun s Q S hq => h s Q S fun v h' tk l r => hq g v h' tk (.leH S.leg l) r
theorem EV.mono {e : Expr} {R R' : Bs → Value → Prop} (h : EV prog w A env g k m e R) (hr : ∀ g' v, SubB g g' → R g' v → R' g' v) : EV prog w A env g k m e R' :=
  fun s Q S hq => h s Q S fun g' v h' tk l r => hq g' v h' tk l (hr g' v l.sub r)

/-! names and constants -/
theorem EP.loc {x : Str} {pos : Pos} {v : Value} {R : Value → Prop} (hv : m x = some v) (hr : R v) (hk : env.scope.kind = .function := by rfl) (hl : env.kindOf x = some .local := by rfl)
    (hd : (x == ("__debug__" : Str)) = false := by decide) : EP prog w A env g k m (.Name x pos) R :=
  fun s _ S hq => wpAny_Name (wpAny_loadName_local hk hl S.ns hv (hq v s.heap s.toks .refl hr)) hd
theorem EP.cell {x : Str} {pos : Pos} {v : Value} {c : Addr} {o : Obj} {R : Value → Prop} (hc : env.cells.lookup x = some c) (ho : k c = some o ∨ g c = some o) (hd' : o.data = .cell (some v)) (hr : R v)
    (hk : env.scope.kind = .function := by rfl) (hl : env.kindOf x = some .cell := by rfl) (hd : (x == ("__debug__" : Str)) = false := by decide) : EP prog w A env g k m (.Name x pos) R :=
  fun s _ S hq => wpAny_Name (wpAny_loadName_cell hk hl hc ⟨o, ho.elim (S.lek c o) (S.leg c o), hd'⟩ (hq v s.heap s.toks .refl hr)) hd
theorem EP.free {x : Str} {pos : Pos} {v : Value} {c : Addr} {o : Obj} {R : Value → Prop} (hc : env.cells.lookup x = some c) (ho : k c = some o ∨ g c = some o) (hd' : o.data = .cell (some v)) (hr : R v)
    (hk : env.scope.kind = .function := by rfl) (hl : env.kindOf x = some .free := by rfl) (hd : (x == ("__debug__" : Str)) = false := by decide) (hn : (x == ("__classdict__" : Str)) = false := by decide) : EP prog w A env g k m (.Name x pos) R :=
  fun s _ S hq => wpAny_Name (wpAny_loadName_free hk hl hc ⟨o, ho.elim (S.lek c o) (S.leg c o), hd'⟩ (hq v s.heap s.toks .refl hr) hn) hd
theorem EP.int {i : Int} {n : Nat} {pos : Pos} : EP prog w A env g k m (.Constant (.int i) n pos) (isI i) :=
  fun s _ _ hq => wpAny_Constant_int (hq _ s.heap _ .refl ⟨_, rfl⟩)
theorem EP.str {x : Str} {n : Nat} {pos : Pos} : EP prog w A env g k m (.Constant (.str x) n pos) (isS x) :=
  fun s _ _ hq => wpAny_Constant_str (hq _ s.heap _ .refl ⟨_, rfl⟩)
theorem EP.bytes {b : List UInt8} {n : Nat} {pos : Pos} : EP prog w A env g k m (.Constant (.bytes b) n pos) (isY b.toArray) :=
  fun s _ _ hq => fun Γ p hΓ => hq _ s.heap _ .refl ⟨_, rfl⟩
theorem EP.none {n : Nat} {pos : Pos} : EP prog w A env g k m (.Constant .none n pos) (isV .none) :=
  fun s _ _ hq => wpAny_Constant_none (hq _ s.heap s.toks .refl rfl)
theorem EP.tf {b : Bool} {n : Nat} {pos : Pos} : EP prog w A env g k m (.Constant (.bool b) n pos) (isB b) :=
  fun s _ _ hq => wpAny_Constant_bool (hq _ s.heap s.toks .refl rfl)

/-! operators -/
noncomputable def BO (prog : Program) (w : World) (A : Around) (op : Operator) (a b : Value) (R : Value → Prop) : Prop :=
  ∀ (s : Shared) (Q : Value → Shared → Prop), (∀ v tk, R v → Q v { s with toks := tk }) → wpAny (model prog w) A (binaryOp op a b) Q nE s
theorem EP.bin {l r : Expr} {op : Operator} {pos : Pos} {Rl Rr R : Value → Prop} (hl : EP prog w A env g k m l Rl) (hr : EP prog w A env g k m r Rr) (h : ∀ a b, Rl a → Rr b → BO prog w A op a b R) : EP prog w A env g k m (.BinOp l op r pos) R :=
  fun s Q S hq => wpAny_BinOp (hl s _ S fun a h₁ tk₁ l₁ ra => hr _ _ (S.leH l₁) fun b h₂ tk₂ l₂ rb => h a b ra rb _ _ fun v tk rv => hq v h₂ tk (l₁.trans l₂) rv)
theorem EP.add {l r : Expr} {pos : Pos} {a b : Int} (hl : EP prog w A env g k m l (isI a)) (hr : EP prog w A env g k m r (isI b)) : EP prog w A env g k m (.BinOp l .Add r pos) (isI (a + b)) :=
  .bin hl hr fun _ _ ⟨_, ha⟩ ⟨_, hb⟩ s _ hq => by subst ha hb; exact add_int (hq _ _ ⟨_, rfl⟩)
theorem EP.sub {l r : Expr} {pos : Pos} {a b : Int} (hl : EP prog w A env g k m l (isI a)) (hr : EP prog w A env g k m r (isI b)) : EP prog w A env g k m (.BinOp l .Sub r pos) (isI (a - b)) :=
  .bin hl hr fun _ _ ⟨_, ha⟩ ⟨_, hb⟩ s _ hq => by subst ha hb; exact sub_int' (hq _ _ ⟨_, rfl⟩)
theorem EP.mul {l r : Expr} {pos : Pos} {a b : Int} (hl : EP prog w A env g k m l (isI a)) (hr : EP prog w A env g k m r (isI b)) (hf : IntMulOk a b) : EP prog w A env g k m (.BinOp l .Mult r pos) (isI (a * b)) :=
  .bin hl hr fun _ _ ⟨_, ha⟩ ⟨_, hb⟩ s _ hq => by subst ha hb; exact mul_int (hq _ _ ⟨_, rfl⟩) hf
theorem EP.fdiv {l r : Expr} {pos : Pos} {a b : Int} (hl : EP prog w A env g k m l (isI a)) (hr : EP prog w A env g k m r (isI b)) (h0 : b ≠ 0) (hp : Builtin.divisionGoesByPylong a b = false) : EP prog w A env g k m (.BinOp l .FloorDiv r pos) (isI (a.fdiv b)) :=
  .bin hl hr fun _ _ ⟨_, ha⟩ ⟨_, hb⟩ s _ hq => by subst ha hb; exact floordiv_int h0 (hq _ _ ⟨_, rfl⟩) (.inl hp)
theorem EP.fmod {l r : Expr} {pos : Pos} {a b : Int} (hl : EP prog w A env g k m l (isI a)) (hr : EP prog w A env g k m r (isI b)) (h0 : b ≠ 0) : EP prog w A env g k m (.BinOp l .Mod r pos) (isI (a.fmod b)) :=
  .bin hl hr fun _ _ ⟨_, ha⟩ ⟨_, hb⟩ s _ hq => by subst ha hb; exact mod_int' h0 (hq _ _ ⟨_, rfl⟩)
theorem EP.pow {l r : Expr} {pos : Pos} {a b : Int} (hl : EP prog w A env g k m l (isI a)) (hr : EP prog w A env g k m r (isI b)) (h0 : 0 ≤ b) (hf : (Builtin.Int.intBits a : Int) * b ≤ 2 ^ 27) : EP prog w A env g k m (.BinOp l .Pow r pos) (isI (a ^ b.toNat)) :=
  .bin hl hr fun _ _ ⟨_, ha⟩ ⟨_, hb⟩ s _ hq => by subst ha hb; exact pow_int h0 hf (hq _ _ ⟨_, rfl⟩)
theorem EP.cat {l r : Expr} {pos : Pos} {x y : Str} (hl : EP prog w A env g k m l (isS x)) (hr : EP prog w A env g k m r (isS y)) (hf : x.length + y.length ≤ sizeLine) : EP prog w A env g k m (.BinOp l .Add r pos) (isS (x ++ y)) :=
  .bin hl hr fun _ _ ⟨_, ha⟩ ⟨_, hb⟩ s _ hq => by subst ha hb; exact PyProof.Rows.add_str (fun _ _ => hq _ _ ⟨_, rfl⟩) hf
theorem EP.neg {x : Expr} {pos : Pos} {a : Int} (hx : EP prog w A env g k m x (isI a)) : EP prog w A env g k m (.UnaryOp .USub x pos) (isI (-a)) :=
  fun s Q S hq => wpAny_UnaryOp (hx s _ S fun v h₁ tk₁ l₁ ⟨_, e⟩ => by subst e; exact PyProof.Rows.neg_int (hq _ _ _ l₁ ⟨_, rfl⟩))

/-! comparisons, tests -/
noncomputable def CO (prog : Program) (w : World) (A : Around) (op : CmpOp) (a b : Value) (c : Bool) : Prop :=
  ∀ (s : Shared) (Q : Value → Shared → Prop), (∀ tk, Q (.bool c) { s with toks := tk }) → wpAny (model prog w) A (compareOp op a b) Q nE s
theorem EP.cmp {l r : Expr} {op : CmpOp} {pos : Pos} {Rl Rr : Value → Prop} {c : Bool} (hl : EP prog w A env g k m l Rl) (hr : EP prog w A env g k m r Rr) (h : ∀ a b, Rl a → Rr b → CO prog w A op a b c) (hm : behindInMarks op r = false := by rfl) :
    EP prog w A env g k m (.Compare l [op] [r] pos) (isB c) :=
  fun s Q S hq => wpAny_Compare1 (hl s _ S fun a h₁ tk₁ l₁ ra => hr _ _ (S.leH l₁) fun b h₂ tk₂ l₂ rb => h a b ra rb _ _ fun tk => hq _ h₂ tk (l₁.trans l₂) rfl) hm
noncomputable def ET (prog : Program) (w : World) (A : Around) (env : Env) (g k : Bs) (m : Mp) (e : Expr) (c : Bool) : Prop :=
  ∀ (s : Shared) (Q : Bool → Shared → Prop), St env.locals g k m s.heap → (∀ h' tk, LeH s.heap h' → Q c { s with heap := h', toks := tk }) → wpAny (model prog w) A (PySem.isTrue e env (eval e env)) Q nE s
theorem ET.cmp {l r : Expr} {op : CmpOp} {pos : Pos} {Rl Rr : Value → Prop} {c : Bool} (hl : EP prog w A env g k m l Rl) (hr : EP prog w A env g k m r Rr) (h : ∀ a b, Rl a → Rr b → CO prog w A op a b c) (hm : behindInMarks op r = false := by rfl) :
    ET prog w A env g k m (.Compare l [op] [r] pos) c :=
  fun s Q S hq => wpAny_isTrue_Compare1 (hl s _ S fun a h₁ tk₁ l₁ ra => hr _ _ (S.leH l₁) fun b h₂ tk₂ l₂ rb => h a b ra rb _ _ fun tk => wpAny_truthy_bool (hq h₂ tk (l₁.trans l₂))) hm
theorem ET.int {x : Str} {pos : Pos} {i : Int} (hx : EP prog w A env g k m (.Name x pos) (isI i)) : ET prog w A env g k m (.Name x pos) (i != 0) :=
  fun s Q S hq => isTrue_plain (hx s _ S fun v h₁ tk₁ l₁ ⟨_, e⟩ => by subst e; exact truthy_int (hq h₁ tk₁ l₁))
theorem ET.bool {x : Str} {pos : Pos} {b : Bool} (hx : EP prog w A env g k m (.Name x pos) (isB b)) : ET prog w A env g k m (.Name x pos) b :=
  fun s Q S hq => isTrue_plain (hx s _ S fun v h₁ tk₁ l₁ e => by subst e; exact wpAny_truthy_bool (hq h₁ tk₁ l₁))
theorem CO.lt {a b : Value} {x y : Int} : isI x a → isI y b → CO prog w A .Lt a b (decide (x < y)) := by rintro ⟨_, rfl⟩ ⟨_, rfl⟩ s Q h; exact PyProof.Rows.lt_int (h s.toks)
theorem CO.ne {a b : Value} {x y : Int} : isI x a → isI y b → CO prog w A .NotEq a b (x != y) := by rintro ⟨_, rfl⟩ ⟨_, rfl⟩ s Q h; exact PyProof.Rows.ne_int (h s.toks)
theorem CO.eqY {a b : Value} {x y : Array UInt8} : isY x a → isY y b → CO prog w A .Eq a b (x.toList == y.toList) := by rintro ⟨_, rfl⟩ ⟨_, rfl⟩ s Q h; exact eq_bytes (h s.toks)
end
end Mine
end
/-! M3 -/
section
open PySem PySem.W PyProof.Rows PySem.Calls
namespace Mine
/-- a value that a call may hold: how it is kept -/
noncomputable def Kp (g : Bs) : Value → Prop
  | .builtin _ => True
  | .type _ => True
  | .ref a => ∃ o fd, g a = some o ∧ o.data = .func fd
  | _ => False
theorem Kp.looks {M : Model} {g : Bs} {fv : Value} (x : Kp g fv) (h : Heap) (l : LeB g h) : ∃ kk, (kk = Keeper.frame ∨ kk = Keeper.machine ∨ kk = Keeper.boundFrame) ∧ Looks M h (keeperOf fv) kk := by
  cases fv with
  | builtin id => exact ⟨.machine, .inr (.inl rfl), Looks.of_pure rfl⟩
  | type id => exact ⟨.machine, .inr (.inl rfl), Looks.of_pure rfl⟩
  | ref a =>
    obtain ⟨o, fd, ho, hd⟩ := x
    refine ⟨.frame, .inl rfl, ?_⟩
    unfold keeperOf
    refine (Looks.ld (part := none) (l _ _ ho)).andThen ?_
    rw [hd]
    exact Looks.of_pure rfl
  | _ => cases x
theorem Kp.mono {g g' : Bs} {fv : Value} (x : Kp g fv) (s : SubB g g') : Kp g' fv := by
  cases fv with
  | ref a => obtain ⟨o, fd, ho, hd⟩ := x; exact ⟨o, fd, s _ _ ho, hd⟩
  | builtin => exact x
  | type => exact x
  | _ => cases x

section
variable {prog : Program} {w : World} {A : Around} {env : Env} {g k : Bs} {m : Mp}
noncomputable def CV (prog : Program) (w : World) (A : Around) (L : Addr) (g k : Bs) (m : Mp) (fv : Value) (vs : List Value) (kw : List (Str × Value)) (R : Bs → Value → Prop) : Prop :=
  ∀ (s : Shared) (Q : Value → Shared → Prop), St L g k m s.heap → (∀ g' v h' tk, Gr g s.heap g' h' → R g' v → Q v { s with heap := h', toks := tk }) → wpAny (model prog w) A (PySem.call fv vs kw) Q nE s

theorem EL.nil {R : Bs → List Value → Prop} (h : R g []) : EL prog w A env g k m [] R := fun pos s Q S hq => spliced_nil (hq g [] s.heap s.toks (.refl S.leg) h)
theorem EL.cons {e : Expr} {es : List Expr} {R₁ : Bs → Value → Prop} {R : Bs → List Value → Prop} (he : EV prog w A env g k m e R₁) (hes : ∀ g' v, SubB g g' → R₁ g' v → EL prog w A env g' k m es fun g'' vs => R g'' (v :: vs))
    (hst : starEach (e :: es) env = (false, eval e env) :: starEach es env := by rfl) : EL prog w A env g k m (e :: es) R := fun pos s Q S hq => by
  rw [hst]
  show wpAny _ _ (spliced ((false, eval e env) :: backTo pos (starEach es env))) _ _ _
  exact spliced_cons (he s _ S fun g' v h' tk G r => hes g' v G.sub r pos _ _ (S.grow G) fun g'' vs h'' tk'' G2 r2 => hq _ _ _ _ (G.trans G2) r2)
theorem EL.mono {es : List Expr} {R R' : Bs → List Value → Prop} (h : EL prog w A env g k m es R) (hr : ∀ g' vs, SubB g g' → R g' vs → R' g' vs) : EL prog w A env g k m es R' :=
  fun pos s Q S hq => h pos s Q S fun g' v h' tk l r => hq g' v h' tk l (hr g' v l.sub r)
/-- one flat argument -/
theorem EL.one {e : Expr} {R : Value → Prop} (he : EP prog w A env g k m e R) (hst : starEach [e] env = (false, eval e env) :: starEach [] env := by rfl) : EL prog w A env g k m [e] fun _ vs => ∃ v, vs = [v] ∧ R v :=
  .cons he.toV (fun g' v s r => .nil ⟨v, rfl, r⟩) hst
theorem EP.less {g' : Bs} {e : Expr} {R : Value → Prop} (h : EP prog w A env g k m e R) (s : SubB g g') : EP prog w A env g' k m e R := fun s' Q S hq => h s' Q (S.less s) hq
theorem EL.two {e e' : Expr} {R R' : Value → Prop} (he : EP prog w A env g k m e R) (he' : EP prog w A env g k m e' R') (hst : starEach [e, e'] env = (false, eval e env) :: starEach [e'] env := by rfl) (hst' : starEach [e'] env = (false, eval e' env) :: starEach [] env := by rfl) :
    EL prog w A env g k m [e, e'] fun _ vs => ∃ v v', vs = [v, v'] ∧ R v ∧ R' v' :=
  .cons he.toV (fun g' v s r => (EL.one (he'.less s) hst').mono fun _ _ _ ⟨v', e, r'⟩ => ⟨v, v', by rw [e], r, r'⟩) hst
theorem EL.three {e e' e'' : Expr} {R R' R'' : Value → Prop} (he : EP prog w A env g k m e R) (he' : EP prog w A env g k m e' R') (he'' : EP prog w A env g k m e'' R'') (hst : starEach [e, e', e''] env = (false, eval e env) :: starEach [e', e''] env := by rfl)
    (hst' : starEach [e', e''] env = (false, eval e' env) :: starEach [e''] env := by rfl) (hst'' : starEach [e''] env = (false, eval e'' env) :: starEach [] env := by rfl) :
    EL prog w A env g k m [e, e', e''] fun _ vs => ∃ v v' v'', vs = [v, v', v''] ∧ R v ∧ R' v' ∧ R'' v'' :=
  .cons he.toV (fun g' v s r => (EL.two (he'.less s) (he''.less s) hst' hst'').mono fun _ _ _ ⟨v', v'', e, r', r''⟩ => ⟨v, v', v'', by rw [e], r, r', r''⟩) hst

theorem EV.call {f : Str} {np pos : Pos} {e : Expr} {es : List Expr} {fv : Value} {RL : Bs → List Value → Prop} {R : Bs → Value → Prop} (hf : EP prog w A env g k m (.Name f np) (isV fv)) (hk : Kp g fv) (ha : EL prog w A env g k m (e :: es) RL)
    (hc : ∀ g' vs, SubB g g' → RL g' vs → CV prog w A env.locals g' k m fv vs [] R)
    (hst : starEach (e :: es) env = (false, eval e env) :: starEach es env := by rfl) (hpl : ((backTo pos (starEach (e :: es) env)).any (·.1) || (backToKw pos (keywordEach [] env)).any (·.1.isNone)) = false := by rfl) :
    EV prog w A env g k m (.Call (.Name f np) (e :: es) [] pos) R := fun s Q S hq => by
  refine wpAny_Call_ofName (hf s _ S fun v h' tk l r => ?_)
  have hv : v = fv := r
  subst hv
  refine callWith_of (P := fun h => LeB g h) hpl (fun h x => hk.looks h x) ?_
  have ha' := ha pos { s with heap := h', toks := tk } (fun vs s₁ => LeB g s₁.heap ∧ wpAny (model prog w) A (PySem.call v ([] ++ vs) []) Q nE s₁) (S.leH l) fun g' vs h'' tk'' G2 r2 =>
    ⟨fun b o e => G2.leg b o (G2.sub b o e), hc g' vs G2.sub r2 { s with heap := h'', toks := tk'' } _ ((S.leH l).grow G2) fun g3 v3 h3 tk3 G3 r3 => hq _ _ _ _ (((Gr.leH S.leg l).trans G2).trans G3) r3⟩
  rw [hst] at ha' ⊢
  exact evalArgs_plain ha'

theorem EP.call {f : Str} {np pos : Pos} {e : Expr} {es : List Expr} {fv : Value} {RL : Bs → List Value → Prop} {R : Value → Prop} (hf : EP prog w A env g k m (.Name f np) (isV fv)) (hk : Kp g fv) (ha : EL prog w A env g k m (e :: es) RL)
    (hc : ∀ g' vs, SubB g g' → RL g' vs → CV prog w A env.locals g' k m fv vs [] fun _ v => R v)
    (hst : starEach (e :: es) env = (false, eval e env) :: starEach es env := by rfl) (hpl : ((backTo pos (starEach (e :: es) env)).any (·.1) || (backToKw pos (keywordEach [] env)).any (·.1.isNone)) = false := by rfl) :
    EP prog w A env g k m (.Call (.Name f np) (e :: es) [] pos) R := fun s Q S hq => EV.call hf hk ha hc hst hpl s Q S fun _ v h' tk G r => hq v h' tk G.leh r

/-- a method of a built-in type -/
theorem EV.meth {o e : Expr} {es : List Expr} {name : Str} {apos pos : Pos} {T id : String} {Ro : Value → Prop} {RL : Bs → List Value → Prop} {R : Bs → Value → Prop} (ho : EP prog w A env g k m o Ro)
    (hT : ∀ ov (s : Shared), Ro ov → LeB g s.heap → LeB k s.heap → s.TypeIs ov T ∧ ∀ a, ov = .ref a → ∃ ob, s.heap.get? a = some ob ∧ ob.dict = none)
    (pa : PlainAttrs T) (sl : Slot T name id) (ty : typeOf (.builtin id) = pure (.type "method_descriptor")) (ha : EL prog w A env g k m (e :: es) RL)
    (hc : ∀ ov g' vs, Ro ov → SubB g g' → RL g' vs → CV prog w A env.locals g' k m (.builtin id) (ov :: vs) [] R)
    (hb : attributeBase o name env (eval o env) = eval o env := by rfl)
    (hfew : (((backTo pos (starEach (e :: es) env)).all (fun x => !x.1) && (backToKw pos (keywordEach [] env)).all (fun x => x.1.isSome)) && decide ((e :: es).length + ([] : List Keyword).length + (if ([] : List Keyword).isEmpty = true then 0 else 1) < 30)) = true := by rfl)
    (hl : (apos.endLine == pos.line) = true := by rfl) (hst : starEach (e :: es) env = (false, eval e env) :: starEach es env := by rfl) (hpl : (backTo pos (starEach (e :: es) env)).any (·.1) = false := by rfl) :
    EV prog w A env g k m (.Call (.Attribute o name apos) (e :: es) [] pos) R := fun s Q S hq => by
  refine wpAny_Call_method_late hb hfew hl rfl (ho s _ S fun ov h' tk l r => ?_)
  have S' := S.leH l
  obtain ⟨t1, t2⟩ := hT ov { s with heap := h', toks := tk } r S'.leg S'.lek
  refine ⟨T, id, pa, sl, ty, t1, t2, callWith_builtin hpl ?_⟩
  have ha' := ha pos { s with heap := h', toks := tk } (fun vs s₁ => wpAny (model prog w) A (PySem.call (.builtin id) ([ov] ++ vs) []) Q nE s₁) S' fun g' vs h'' tk'' G2 r2 =>
    hc ov g' vs r G2.sub r2 _ _ (S'.grow G2) fun g3 v3 h3 tk3 G3 r3 => hq _ _ _ _ (((Gr.leH S.leg l).trans G2).trans G3) r3
  rw [hst] at ha' ⊢
  exact evalArgs_plain ha'

/-- an item, at a place that is no slice -/
theorem EV.sub {v i : Expr} {pos : Pos} {Rv Ri : Value → Prop} {R : Bs → Value → Prop} (hv : EP prog w A env g k m v Rv) (hi : EP prog w A env g k m i Ri)
    (ht : ∀ o x (s : Shared) (Q : Value → Shared → Prop), Rv o → Ri x → St env.locals g k m s.heap → (∀ g' v h' tk, Gr g s.heap g' h' → R g' v → Q v { s with heap := h', toks := tk }) → wpAny (model prog w) A (subscriptTail v i o x) Q nE s) :
    EV prog w A env g k m (.Subscript v i pos) R := fun s Q S hq =>
  Subscript_ (hv s _ S fun o h₁ tk₁ l₁ ro => hi _ _ (S.leH l₁) fun x h₂ tk₂ l₂ rx => ht o x _ _ ro rx ((S.leH l₁).leH l₂) fun g' v h' tk G r => hq _ _ _ _ (((Gr.leH S.leg l₁).trans (Gr.leH (S.leH l₁).leg l₂)).trans G) r)
theorem EP.sub' {v i : Expr} {pos : Pos} {Rv Ri : Value → Prop} {R : Value → Prop} (hv : EP prog w A env g k m v Rv) (hi : EP prog w A env g k m i Ri)
    (ht : ∀ o x (s : Shared) (Q : Value → Shared → Prop), Rv o → Ri x → St env.locals g k m s.heap → (∀ v tk, R v → Q v { s with toks := tk }) → wpAny (model prog w) A (subscriptTail v i o x) Q nE s) :
    EP prog w A env g k m (.Subscript v i pos) R := fun s Q S hq =>
  Subscript_ (hv s _ S fun o h₁ tk₁ l₁ ro => hi _ _ (S.leH l₁) fun x h₂ tk₂ l₂ rx => ht o x _ _ ro rx ((S.leH l₁).leH l₂) fun v tk r => hq _ _ _ (l₁.trans l₂) r)
/-- an item of a list that stands -/
theorem EP.item {v i : Expr} {pos : Pos} {ds : List D} {d : D} {n : Int} (hv : EP prog w A env g k m v fun o => Rp prog w g o (.lst ds)) (hi : EP prog w A env g k m i (isI n)) (h0 : 0 ≤ n) (h1 : n < 2 ^ 63) (hd : ds[n.toNat]? = some d)
    (hs : ∀ o x, subscripted i false o x = operate [o, x] (getItem o x) := by intro _ _; with_unfolding_all rfl) :
    EP prog w A env g k m (.Subscript v i pos) fun o => Rp prog w g o d :=
  .sub' hv hi fun o x s Q ro ⟨t, ex⟩ S hq => by
    subst ex
    cases ro with
    | lst e r =>
      obtain ⟨y, hy, ry⟩ := r.get hd
      have hL : s.heap.IsList _ _ := ⟨_, S.leg _ _ e, rfl, _, rfl⟩
      exact tail_any hL.typeIs slot_list_getitem.lookup (wpAny_getItem_list hL h0 h1 (by simpa using hy) (hq _ s.toks ry)) (hs _ _)
theorem EP.itemT {v i : Expr} {pos : Pos} {ds : List D} {d : D} {n : Int} {j : Nat} (hv : EP prog w A env g k m v fun o => Rp prog w g o (.tup ds)) (hi : EP prog w A env g k m i (isI n)) (h0 : -(2 ^ 63) ≤ n) (h1 : n < 2 ^ 63) (hj : seqIndex? n ds.length = some j) (hd : ds[j]? = some d)
    (hs : ∀ o x, subscripted i false o x = operate [o, x] (getItem o x) := by intro _ _; with_unfolding_all rfl) :
    EP prog w A env g k m (.Subscript v i pos) fun o => Rp prog w g o d :=
  .sub' hv hi fun o x s Q ro ⟨t, ex⟩ S hq => by
    subst ex
    cases ro with
    | tup e r =>
      obtain ⟨y, hy, ry⟩ := r.get hd
      exact item_tupleT (l := _) ⟨_, S.leg _ _ e, rfl, 0, rfl⟩ h0 h1 (by rw [r.length]; exact hj) hy (hq _ s.toks ry) (hs _ _)
end
end Mine
end
/-! M4 -/
section
open PySem PySem.W PyProof.Rows PySem.Calls
namespace Mine
noncomputable def upd (m : Mp) (x : Str) (v : Value) : Mp := fun y => if y = x then some v else m y
theorem upd_self {m : Mp} {x : Str} {v : Value} : upd m x v x = some v := if_pos rfl
theorem upd_ne {m : Mp} {x y : Str} {v : Value} (h : y ≠ x) : upd m x v y = m y := if_neg h
noncomputable def setk (k : Bs) (c : Addr) (o : Obj) : Bs := fun b => if b = c then some o else k b
theorem setk_self {k : Bs} {c : Addr} {o : Obj} : setk k c o c = some o := if_pos rfl
theorem setk_ne {k : Bs} {c b : Addr} {o : Obj} (h : b ≠ c) : setk k c o b = k b := if_neg h
noncomputable def nok : Bs := fun _ => none

theorem Ext.store {L : Addr} {g k : Bs} {m m' : Mp} {h h' : Heap} (S : St L g k m h) (hn : h'.Ns L m') (hs : Heap.SameBut L h h') : Ext L g k h g k m' h' := by
  refine ⟨⟨hn, fun b o e => ?_, fun b o e => ?_, S.dis, S.offg, S.offk⟩, .refl, fun b o e n nl => (hs.2 b nl).trans e, fun b o e n => (by rw [n] at e; cases e), fun b o e n => (by rw [n] at e; cases e)⟩
  · exact (hs.2 b (fun q => by subst q; rw [S.offg] at e; cases e)).trans (S.leg b o e)
  · exact (hs.2 b (fun q => by subst q; rw [S.offk] at e; cases e)).trans (S.lek b o e)
/-- one thing that may turn is turned -/
theorem Ext.turn {L : Addr} {g k : Bs} {m : Mp} {h h' : Heap} {c : Addr} {o o' : Obj} (S : St L g k m h) (hc : k c = some o) (hs : Heap.SameBut c h h') (ho : h'.get? c = some o') : Ext L g k h g (setk k c o') m h' := by
  have hL : L ≠ c := fun q => by subst q; rw [S.offk] at hc; cases hc
  refine ⟨⟨S.ns.sameBut hs hL, fun b ob e => ?_, fun b ob e => ?_, fun b ob e => ?_, S.offg, ?_⟩, .refl, fun b ob e n nl => ?_, fun b ob e n => (by rw [n] at e; cases e), fun b ob e n => ?_⟩
  · exact (hs.2 b (fun q => by subst q; have := S.dis _ _ e; rw [hc] at this; cases this)).trans (S.leg b ob e)
  · unfold setk at e
    split at e
    · rename_i q; subst q; cases e; exact ho
    · rename_i q; exact (hs.2 b q).trans (S.lek b ob e)
  · unfold setk
    split
    · rename_i q; subst q; have := S.dis _ _ e; rw [hc] at this; cases this
    · exact S.dis b ob e
  · rw [setk_ne hL]; exact S.offk
  · exact (hs.2 b (fun q => by subst q; rw [hc] at n; cases n)).trans e
  · unfold setk at e
    split at e
    · rename_i q; subst q; rw [hc] at n; cases n
    · rw [n] at e; cases e
/-- a new thing that may turn -/
theorem Ext.fresh {L : Addr} {g k : Bs} {m : Mp} {h : Heap} {o : Obj} (S : St L g k m h) (hf : o.isFreed = false) : Ext L g k h g (setk k h.objs.size o) m (h.push o) := by
  have hlt : ∀ b ob, h.get? b = some ob → b ≠ h.objs.size := fun b ob e => Nat.ne_of_lt (Heap.lt_size e)
  have hnone : h.get? h.objs.size = none := Heap.get?_none_of_le (Nat.le_refl _)
  obtain ⟨oL, eL⟩ := ns_some S.ns
  refine ⟨⟨S.ns.push o, S.leg.trans (.push o), fun b ob e => ?_, fun b ob e => ?_, S.offg, ?_⟩, .refl, fun b ob e n nl => Heap.get?_push_of_some _ e, fun b ob e n => (by rw [n] at e; cases e), fun b ob e n => ?_⟩
  · unfold setk at e
    split at e
    · rename_i q; subst q; cases e; exact Heap.get?_push_size _ hf
    · exact Heap.get?_push_of_some _ (S.lek b ob e)
  · rw [setk_ne (hlt b ob (S.leg b ob e))]; exact S.dis b ob e
  · rw [setk_ne (hlt L oL eL)]; exact S.offk
  · unfold setk at e
    split at e
    · rename_i q; subst q; exact hnone
    · rw [n] at e; cases e

section
variable {prog : Program} {w : World} {A : Around} {env : Env} {g k : Bs} {m : Mp}
theorem EX.mono {ss : List Stmt} {R R' : Bs → Bs → Mp → Flow → Prop} (h : EX prog w A env g k m ss R) (hr : ∀ g' k' m' f, SubB g g' → R g' k' m' f → R' g' k' m' f) : EX prog w A env g k m ss R' :=
  fun s Q S hq => h s Q S fun f g' k' m' h' tk x r => hq f g' k' m' h' tk x (hr g' k' m' f x.sub r)
theorem E1.mono {st : Stmt} {R R' : Bs → Bs → Mp → Flow → Prop} (h : E1 prog w A env g k m st R) (hr : ∀ g' k' m' f, SubB g g' → R g' k' m' f → R' g' k' m' f) : E1 prog w A env g k m st R' :=
  fun s Q S hq => h s Q S fun f g' k' m' h' tk x r => hq f g' k' m' h' tk x (hr g' k' m' f x.sub r)
theorem EX.nil {R : Bs → Bs → Mp → Flow → Prop} (h : R g k m .next) : EX prog w A env g k m [] R := fun s Q S hq => wpAny_execs_nil (hq .next g k m s.heap s.toks (.refl S) h)
theorem EX.cons {st : Stmt} {rest : List Stmt} {R₁ R : Bs → Bs → Mp → Flow → Prop} (h₁ : E1 prog w A env g k m st R₁) (hn : ∀ g' k' m', SubB g g' → R₁ g' k' m' .next → EX prog w A env g' k' m' rest R)
    (hr : ∀ g' k' m' f, f ≠ .next → SubB g g' → R₁ g' k' m' f → R g' k' m' f) : EX prog w A env g k m (st :: rest) R := fun s Q S hq =>
  wpAny_execs_cons (h₁ s _ S fun f g' k' m' h' tk x r => by
    have tr : ∀ {g'' k'' m'' h''}, Ext env.locals g' k' h' g'' k'' m'' h'' → Ext env.locals g k s.heap g'' k'' m'' h'' := fun y => x.trans y (ns_some S.ns) S.offk S.offg
    cases f with
    | next => exact hn g' k' m' x.sub r { s with heap := h', toks := tk } Q x.st fun f g'' k'' m'' h'' tk'' y r' => hq f g'' k'' m'' h'' tk'' (tr y) r'
    | brk => exact hq _ _ _ _ _ _ x (hr _ _ _ _ (by intro e; cases e) x.sub r)
    | cont => exact hq _ _ _ _ _ _ x (hr _ _ _ _ (by intro e; cases e) x.sub r)
    | ret v => exact hq _ _ _ _ _ _ x (hr _ _ _ _ (by intro e; cases e) x.sub r))
/-- a statement that goes on -/
noncomputable def Nx (R : Bs → Bs → Mp → Prop) : Bs → Bs → Mp → Flow → Prop := fun g k m f => f = .next ∧ R g k m
theorem EX.then {st : Stmt} {rest : List Stmt} {R₁ : Bs → Bs → Mp → Prop} {R : Bs → Bs → Mp → Flow → Prop} (h₁ : E1 prog w A env g k m st (Nx R₁)) (hn : ∀ g' k' m', SubB g g' → R₁ g' k' m' → EX prog w A env g' k' m' rest R) :
    EX prog w A env g k m (st :: rest) R := .cons h₁ (fun g' k' m' s r => hn g' k' m' s r.2) fun g' k' m' f n s r => absurd r.1 n
theorem E1.ret {e : Expr} {pos : Pos} {R : Bs → Value → Prop} (he : EV prog w A env g k m e R) : E1 prog w A env g k m (.Return (some e) pos) fun g' k' m' f => k' = k ∧ m' = m ∧ ∃ v, f = .ret v ∧ R g' v := fun s Q S hq =>
  wpAny_Return_some (he s _ S fun g' v h' tk G r => hq _ g' k m h' tk (.grow S G) ⟨rfl, rfl, v, rfl, r⟩)
/-- a local name is bound -/
theorem E1.set {x : Str} {p pos : Pos} {e : Expr} {R : Bs → Value → Prop} (he : EV prog w A env g k m e R) (hl : env.kindOf x = some .local := by rfl)
    (hp : (env.scope.kind == .class || (env.scope.kind == .module && env.locals != env.globals)) = false := by rfl) (hs : swapsWith e (some (.Name x p)) pos.line env = pure false := by rfl) :
    E1 prog w A env g k m (.Assign [.Name x p] e pos) (Nx fun g' k' m' => k' = k ∧ ∃ v, R g' v ∧ m' = upd m x v) := fun s Q S hq =>
  wpAny_Assign_Name (he s _ S fun g' v h' tk G r => wpAny_storeName_local hl (S.grow G).ns (fun h'' hn hb =>
    hq .next g' k (upd m x v) h'' _ ((Ext.grow S G).trans (.store (S.grow G) hn hb) (ns_some S.ns) S.offk S.offg) ⟨rfl, rfl, v, r, rfl⟩) hp) hs
/-- a name's cell is filled -/
theorem E1.setC {x : Str} {p pos : Pos} {e : Expr} {c : Addr} {o : Obj} {v₀ : Option Value} {R : Bs → Value → Prop} (he : EV prog w A env g k m e R) (hc : env.cells.lookup x = some c) (ho : k c = some o) (hd : o.data = .cell v₀) (hk : env.scope.kind = .function := by rfl) (hl : env.kindOf x = some .cell := by rfl)
    (hs : swapsWith e (some (.Name x p)) pos.line env = pure false := by rfl) :
    E1 prog w A env g k m (.Assign [.Name x p] e pos) (Nx fun g' k' m' => m' = m ∧ ∃ v o', R g' v ∧ o'.data = .cell (some v) ∧ k' = setk k c o') := fun s Q S hq =>
  wpAny_Assign_Name (he s _ S fun g' v h' tk G r => wpAny_storeName_cell hk hl hc ⟨o, (S.grow G).lek c o ho, hd⟩ fun h'' hv hb => by
    obtain ⟨o', ho', hd'⟩ := hv
    exact hq .next g' (setk k c o') m h'' _ ((Ext.grow S G).trans (.turn (S.grow G) ho hb ho') (ns_some S.ns) S.offk S.offg) ⟨rfl, rfl, v, o', r, hd', rfl⟩) hs
theorem E1.if {t : Expr} {b o : List Stmt} {pos : Pos} {c : Bool} {R : Bs → Bs → Mp → Flow → Prop} (ht : ET prog w A env g k m t c) (hb : c = true → EX prog w A env g k m b R) (ho : c = false → EX prog w A env g k m o R) : E1 prog w A env g k m (.If t b o pos) R := fun s Q S hq =>
  wpAny_If (ht s _ S fun h' tk l => by
    have G := Gr.leH S.leg l
    have S' := S.grow G
    have tr : ∀ {g'' k'' m'' h''}, Ext env.locals g k h' g'' k'' m'' h'' → Ext env.locals g k s.heap g'' k'' m'' h'' := fun y => (Ext.grow S G).trans y (ns_some S.ns) S.offk S.offg
    cases c with
    | true => exact hb rfl { s with heap := h', toks := tk } _ S' fun f g' k' m' h'' tk' x r => hq f g' k' m' h'' tk' (tr x) r
    | false => exact ho rfl { s with heap := h', toks := tk } _ S' fun f g' k' m' h'' tk' x r => hq f g' k' m' h'' tk' (tr x) r)
/-- an int's name turned in place -/
theorem E1.aug {x : Str} {p pos : Pos} {op : Operator} {e : Expr} {v₀ : Value} {R R' : Value → Prop} (hv : m x = some v₀) (he : EP prog w A env g k m e R)
    (hi : ∀ v (s : Shared) (Q : Value → Shared → Prop), R v → (∀ r tk, R' r → Q r { s with toks := tk }) → wpAny (model prog w) A (inplaceOp op v₀ v) Q nE s) (hk : env.scope.kind = .function := by rfl) (hl : env.kindOf x = some .local := by rfl)
    (hp : (env.scope.kind == .class || (env.scope.kind == .module && env.locals != env.globals)) = false := by rfl) :
    E1 prog w A env g k m (.AugAssign (.Name x p) op e pos) (Nx fun g' k' m' => g' = g ∧ k' = k ∧ ∃ v, R' v ∧ m' = upd m x v) := fun s Q S hq =>
  wpAny_AugAssign_Name (wpAny_loadName_local hk hl S.ns hv (he s _ S fun v h' tk l r => hi v _ _ r fun u tk' ru => wpAny_storeName_local hl (S.leH l).ns (fun h'' hn hb =>
    hq .next g k (upd m x u) h'' _ ((Ext.grow S (.leH S.leg l)).trans (.store (S.leH l) hn hb) (ns_some S.ns) S.offk S.offg) ⟨rfl, rfl, rfl, u, ru, rfl⟩) hp))
/-- an expression by itself -/
theorem E1.expr {e : Expr} {pos : Pos} {R : Bs → Bs → Mp → Prop} (he : ∀ (s : Shared) (Q : Value → Shared → Prop), St env.locals g k m s.heap → (∀ v g' k' m' h' tk, Ext env.locals g k s.heap g' k' m' h' → R g' k' m' → Q v { s with heap := h', toks := tk }) → wpAny (model prog w) A (eval e env) Q nE s)
    (hi : interactive env = false := by rfl) (hs : swapsWith e none pos.line env = pure false := by rfl) : E1 prog w A env g k m (.Expr e pos) (Nx R) := fun s Q S hq =>
  wpAny_Expr_any (he s _ S fun v g' k' m' h' tk x r => hq .next g' k' m' h' tk x ⟨rfl, r⟩) hi hs
end

/-! a def, called -/
noncomputable def FS (prog : Program) (w : World) (d : Nat) (f : Addr) (vs : List Value) (kw : List (Str × Value)) (g : Bs) (R : Bs → Value → Prop) : Prop :=
  ∀ (A : Around) (s : Shared) (Q : Value → Shared → Prop), A.handled = none → A.depth + d < recursionLimit → LeB g s.heap → (∀ g' v h' tk, Gr g s.heap g' h' → R g' v → Q v { s with heap := h', toks := tk }) → wpAny (model prog w) A (PySem.call (.ref f) vs kw) Q nE s
theorem FS.toCV {prog : Program} {w : World} {A : Around} {L : Addr} {g k : Bs} {m : Mp} {d : Nat} {f : Addr} {vs : List Value} {kw : List (Str × Value)} {R : Bs → Value → Prop} (h : FS prog w d f vs kw g R) (hh : A.handled = none) (hd : A.depth + d < recursionLimit) :
    CV prog w A L g k m (.ref f) vs kw R := fun s Q S hq => h A s Q hh hd S.leg hq
/-- both parts as one -/
noncomputable def joinB (g k : Bs) : Bs := fun b => (g b).or (k b)
theorem joinB_l {g k : Bs} : SubB g (joinB g k) := fun b o e => by unfold joinB; rw [e]; rfl
theorem joinB_r {g k : Bs} (dis : ∀ b o, g b = some o → k b = none) : SubB k (joinB g k) := fun b o e => by
  unfold joinB
  cases q : g b with
  | none => exact e
  | some o' => have := dis b o' q; rw [e] at this; cases this
theorem joinB_of {g k : Bs} {b : Addr} {o : Obj} (e : joinB g k b = some o) : g b = some o ∨ k b = some o := by
  unfold joinB at e
  cases q : g b with
  | none => rw [q] at e; exact .inr e
  | some o' => rw [q] at e; exact .inl e
noncomputable def BD (fd : FuncData) (args : Args) (g : Bs) (binds : List (Str × Value)) : Prop :=
  ∀ (M : Model) (A : Around) (E : Value → Shared → Prop) (s : Shared) (Q : List (Str × Value) → Shared → Prop), LeB g s.heap → Q binds s → wpAny M A (bindArgs fd args) Q E s
theorem BD.of_eq {fd : FuncData} {args : Args} {g : Bs} {binds : List (Str × Value)} (h : bindArgs fd args = pure binds) : BD fd args g binds := fun M A E s Q _ hq => by rw [h]; exact wpAny_pure hq

theorem FS.body {prog : Program} {w : World} {d : Nat} {f : Addr} {vs : List Value} {kw : List (Str × Value)} {g : Bs} {R : Bs → Value → Prop} {fo : Obj} {name qual : Str} {params : Arguments} {body : List Stmt} {scope : Scope} {dV kV doc pm cdv ct : Value} {an : Option Addr} {binds : List (Str × Value)}
    (ho : g f = some fo) (hfd : fo.data = .func (fnX name qual params body scope [] dV kV doc pm an cdv ct)) (hcode : ∀ h, LeB g h → h.CodeRec cdv qual) (hlim : ∀ h, LeB g h → h.NoLimit)
    (hbind : BD (fnX name qual params body scope [] dV kV doc pm an cdv ct) ⟨vs, kw⟩ g binds)
    (hkind : (binds.all fun y => scope.names.lookup y.1 == some .local || scope.names.lookup y.1 == some .cell) = true)
    (hnd : ((cellsFrom 0 scope.names []).map (·.1)).Nodup)
    (hb : ∀ (A : Around) (L : Addr) (k : Bs), A.handled = none → A.depth + d < recursionLimit →
      (∀ n c, (cellsFrom (L + 1) scope.names []).lookup n = some c → ∃ o, k c = some o ∧ o.data = .cell (bindC (envX qual scope L f cdv (cellsFrom (L + 1) scope.names [])).kindOf binds (fun _ => none) n)) →
      EX prog w A (envX qual scope L f cdv (cellsFrom (L + 1) scope.names [])) g k (bindL (envX qual scope L f cdv (cellsFrom (L + 1) scope.names [])).kindOf binds fun _ => none) body
        fun g' k' m' fl => R (joinB g' k') (match fl with | .ret v => v | _ => .none))
    (hco : scope.isCoroutine = false := by rfl) (hgen : scope.isGenerator = false := by rfl) (hk : scope.kind = .function := by rfl) : FS prog w (d + 1) f vs kw g R := by
  intro A s Q hh hd hg hq
  refine wpAny_call ?_
  refine codeAny_call_function (by omega) (hg _ _ ho) hfd hco hgen rfl (hcode _ hg) (hbind _ _ _ _ _ hg ?_)
  refine wpAny_newFunctionEnv_cells hk (kindsX hkind _) fun env' he s' x => ?_
  subst he
  have keep := x.toInCall.keep
  refine ⟨hlim _ (hg.trans keep), codeAny_func ?_⟩
  obtain ⟨h₁, tk, rfl, _⟩ := x.done
  let cs := cellsFrom (s.heap.objs.size + 1) scope.names []
  let kk : Bs := fun b => if b ∈ cs.map (·.2) then h₁.get? b else none
  have hL : s.heap.get? s.heap.objs.size = none := Heap.get?_none_of_le (Nat.le_refl _)
  have above : ∀ b, b ∈ cs.map (·.2) → s.heap.objs.size < b := fun b hb' => by
    obtain ⟨p, hp, rfl⟩ := List.mem_map.mp hb'
    exact x.above p.1 p.2 hp
  have S : St s.heap.objs.size g kk (bindL (envX qual scope s.heap.objs.size f cdv (cellsFrom (s.heap.objs.size + 1) scope.names [])).kindOf binds fun _ => none) h₁ := by
    refine ⟨x.toInCall.ns, hg.trans keep, fun b o e => ?_, fun b o e => ?_, ?_, ?_⟩
    · dsimp only [kk] at e
      split at e
      · exact e
      · cases e
    · dsimp only [kk]
      split
      · rename_i hm
        have := above b hm
        have h2 := Heap.lt_size (hg b o e)
        exact (Nat.lt_asymm h2 this).elim
      · rfl
    · cases q : g s.heap.objs.size with
      | none => rfl
      | some o => have := hg _ _ q; rw [hL] at this; cases this
    · dsimp only [kk]
      split
      · rename_i hm; exact absurd (above _ hm) (Nat.lt_irrefl _)
      · rfl
  have cells : ∀ n c, cs.lookup n = some c → ∃ o, kk c = some o ∧ o.data = .cell (bindC (envX qual scope s.heap.objs.size f cdv cs).kindOf binds (fun _ => none) n) := fun n c e => by
    obtain ⟨o, ho', hd'⟩ := x.cell n c e
    refine ⟨o, ?_, hd'⟩
    have hm : c ∈ cs.map (·.2) := List.mem_map.mpr ⟨(n, c), mem_of_lookup e, rfl⟩
    dsimp only [kk]
    rw [if_pos hm]
    exact ho'
  have hA : (A.deeper (envX qual scope s.heap.objs.size f cdv cs)).handled = none := hh
  have hD : (A.deeper (envX qual scope s.heap.objs.size f cdv cs)).depth + d < recursionLimit := by
    have : (A.deeper (envX qual scope s.heap.objs.size f cdv cs)).depth = A.depth + 1 := rfl
    omega
  refine wpAny_mono (hb _ _ kk hA hD cells { s with heap := h₁, toks := tk } _ S fun fl g' k' m' h' tk' X r => ?_) (fun _ _ y => y) fun _ _ y => y.elim
  refine hq (joinB g' k') _ h' tk' ⟨X.sub.trans joinB_l, fun b o e => (joinB_of e).elim (X.st.leg b o) (X.st.lek b o), fun b o e => ?_, fun b o e n => ?_⟩ r
  · have hb1 : b < s.heap.objs.size := Heap.lt_size e
    refine X.pres b o (keep b o e) ?_ (Nat.ne_of_lt hb1)
    dsimp only [kk]
    split
    · rename_i hm; exact (Nat.lt_asymm (above b hm) hb1).elim
    · rfl
  · cases q : s.heap.get? b with
    | none => rfl
    | some ob =>
      have hb1 : b < s.heap.objs.size := Heap.lt_size q
      have e1 : h₁.get? b = some ob := keep b ob q
      have kn : kk b = none := by
        dsimp only [kk]
        split
        · rename_i hm; exact (Nat.lt_asymm (above b hm) hb1).elim
        · rfl
      rcases joinB_of e with e | e
      · rcases X.newg b o e n with r1 | r1
        · have r2 : h₁.get? b = none := r1
          rw [e1] at r2; cases r2
        · rw [kn] at r1; cases r1
      · have r2 : h₁.get? b = none := X.newk b o e kn
        rw [e1] at r2; cases r2
end Mine
end
/-! M5 -/
section
open PySem PySem.W PyProof.Rows PySem.Calls
namespace Mine
theorem noE {α : Type} {M : Model} {A : Around} {t : Sem α} {Q : α → Shared → Prop} {E : Value → Shared → Prop} {s : Shared} (h : wpAny M A t Q nE s) : wpAny M A t Q E s := wpAny_mono h (fun _ _ x => x) fun _ _ x => x.elim
section
variable {prog : Program} {w : World} {A : Around} {env : Env} {g k : Bs} {m : Mp}
theorem E1.while {test : Expr} {body : List Stmt} {pos : Pos} (J : Nat → Bs → Bs → Mp → Prop) {RR : Bs → Bs → Mp → Prop} (n₀ : Nat) (h0 : J n₀ g k m)
    (turn : ∀ n g' k' m', SubB g g' → J n g' k' m' → ∃ c, ET prog w A env g' k' m' test c ∧ (c = true → EX prog w A env g' k' m' body fun g2 k2 m2 f => f = .next ∧ ∃ n', n' < n ∧ J n' g2 k2 m2) ∧ (c = false → RR g' k' m')) :
    E1 prog w A env g k m (.While test body [] pos) (Nx RR) := fun s Q S hq => by
  refine wpAny_While (codeAny_whileLoop (fun n s' => ∃ g' k' m' h' tk, s' = { s with heap := h', toks := tk } ∧ Ext env.locals g k s.heap g' k' m' h' ∧ J n g' k' m') ?_ n₀ ⟨g, k, m, s.heap, s.toks, rfl, .refl S, h0⟩)
  rintro n s' ⟨g', k', m', h', tk, rfl, X, hJ⟩
  obtain ⟨c, ht, hb, hn⟩ := turn n g' k' m' X.sub hJ
  refine noE (ht { s with heap := h', toks := tk } _ X.st fun h₂ tk₂ l => ?_)
  have G := Gr.leH X.st.leg l
  have X₂ : Ext env.locals g k s.heap g' k' m' h₂ := X.trans (.grow X.st G) (ns_some S.ns) S.offk S.offg
  cases c with
  | true =>
    rw [if_pos rfl]
    refine noE (hb rfl { s with heap := h₂, toks := tk₂ } _ X₂.st fun f g3 k3 m3 h3 tk3 X3 r => ?_)
    obtain ⟨rfl, n', hlt, hJ'⟩ := r
    exact ⟨n', hlt, g3, k3, m3, h3, tk3, rfl, X₂.trans X3 (ns_some S.ns) S.offk S.offg, hJ'⟩
  | false =>
    rw [if_neg Bool.false_ne_true]
    exact wpAny_execs_nil (hq .next g' k' m' h₂ tk₂ X₂ ⟨rfl, hn rfl⟩)

/-- an item of a walk: a thing, or a tuple as it is handed on -/
inductive IK where
  | one (d : D)
  | tup (ds : List D)
noncomputable def Vl (prog : Program) (w : World) (g : Bs) : IK → Value → Heap → Prop
  | .one d, v, _ => Rp prog w g v d
  | .tup ds, v, h => ∃ a vs, v = .ref a ∧ h.IsTuple a vs.toArray ∧ RpL prog w g vs ds
theorem Vl.mono {prog : Program} {w : World} {g g' : Bs} {it : IK} {v : Value} {h : Heap} (x : Vl prog w g it v h) (s : SubB g g') : Vl prog w g' it v h := by
  cases it with
  | one d => exact Rp.mono s x
  | tup ds => obtain ⟨a, vs, e, t, r⟩ := x; exact ⟨a, vs, e, t, r.mono s⟩
/-- what is walked over -/
structure Src (prog : Program) (w : World) (A : Around) (target : Expr) (its : List IK) (h₀ : Heap) (g' : Bs) (h' : Heap) (I : Addr) (fp wr : List Addr) (T : Nat → Heap → Prop) : Prop where
  step : ∀ i it (s : Shared) (Q : Value → Shared → Prop), its[i]? = some it → LeB g' s.heap → T i s.heap → (∀ v h' tk, Vl prog w g' it v h' → T (i + 1) h' → (∀ b o, b ∉ wr → s.heap.get? b = some o → h'.get? b = some o) → Q v { s with heap := h', toks := tk }) →
    wpAny (model prog w) A (pyNext (.ref I)) (fun r s₁ => match r with | none => False | some v => wpAny (model prog w) A (letOwnedTupleGo target (.ref I) v) (fun _ s₂ => Q v s₂) nE s₁) nE s
  done : ∀ (s : Shared) (Q : Option Value → Shared → Prop), T its.length s.heap → (∀ h' tk, (∀ b o, b ∉ wr → s.heap.get? b = some o → h'.get? b = some o) → Q none { s with heap := h', toks := tk }) → wpAny (model prog w) A (pyNext (.ref I)) Q nE s
  self : ∀ (s : Shared) (Q : Value → Shared → Prop), T 0 s.heap → Q (.ref I) s → wpAny (model prog w) A (pyIter (.ref I)) Q nE s
  frame : ∀ i h h', T i h → (∀ b ∈ fp, ∀ o, h.get? b = some o → h'.get? b = some o) → T i h'
  st : T 0 h'
  new : ∀ b ∈ wr, h₀.get? b = none
  off : ∀ b ∈ wr, g' b = none
  foot : ∀ b ∈ fp, b ∈ wr ∨ ∃ o, g' b = some o
  ob : ∀ i h, T i h → ∀ b ∈ wr, ∃ o, h.get? b = some o
noncomputable def EI (prog : Program) (w : World) (A : Around) (env : Env) (g k : Bs) (m : Mp) (iter target : Expr) (its : List IK) : Prop :=
  ∀ (s : Shared) (Q : Value → Shared → Prop), St env.locals g k m s.heap → (∀ g' I fp wr T h' tk, Gr g s.heap g' h' → Src prog w A target its s.heap g' h' I fp wr T → Q (.ref I) { s with heap := h', toks := tk }) →
    wpAny (model prog w) A (eval iter env) (fun xv s₁ => wpAny (model prog w) A (pyIter xv) Q nE s₁) nE s
noncomputable def EA (prog : Program) (w : World) (A : Around) (env : Env) (g k : Bs) (m : Mp) (target : Expr) (it : IK) (R : Bs → Bs → Mp → Prop) : Prop :=
  ∀ (v : Value) (s : Shared) (Q : Unit → Shared → Prop), St env.locals g k m s.heap → Vl prog w g it v s.heap → (∀ g' k' m' h' tk, Ext env.locals g k s.heap g' k' m' h' → R g' k' m' → Q () { s with heap := h', toks := tk }) → wpAny (model prog w) A (assign target env v) Q nE s

/-- one step of a walk, seen from the state -/
theorem Src.next {target : Expr} {its : List IK} {h₀ : Heap} {g₁ : Bs} {h₁ : Heap} {I : Addr} {fp wr : List Addr} {T : Nat → Heap → Prop} (X : Src prog w A target its h₀ g₁ h₁ I fp wr T) {L : Addr} {gi ki : Bs} {mi : Mp} {h h' : Heap}
    (S : St L gi ki mi h) (og : ∀ b ∈ wr, gi b = none) (ok : ∀ b ∈ wr, ki b = none) (oL : L ∉ wr) (hk : ∀ b o, b ∉ wr → h.get? b = some o → h'.get? b = some o) : St L gi ki mi h' :=
  ⟨S.ns.at' fun o e => hk L o oL e, fun b o e => hk b o (fun q => by rw [og b q] at e; cases e) (S.leg b o e), fun b o e => hk b o (fun q => by rw [ok b q] at e; cases e) (S.lek b o e), S.dis, S.offg, S.offk⟩
theorem E1.for {target iter : Expr} {body : List Stmt} {pos : Pos} {ds : List IK} (J : Nat → Bs → Bs → Mp → Prop) (RR : Bs → Bs → Mp → Value → Prop)
    (hit : EI prog w A env g k m iter target ds) (h0 : ∀ g', SubB g g' → J 0 g' k m)
    (turn : ∀ i d g' k' m', SubB g g' → ds[i]? = some d → J i g' k' m' → EA prog w A env g' k' m' target d fun g2 k2 m2 => EX prog w A env g2 k2 m2 body fun g3 k3 m3 f => (f = .next ∧ J (i + 1) g3 k3 m3) ∨ ∃ rv, f = .ret rv ∧ RR g3 k3 m3 rv)
    (hs : ∀ x, foldedSetIterable iter env x = pure x := by intro _; rfl) :
    E1 prog w A env g k m (.For target iter body [] pos) fun g' k' m' f => (f = .next ∧ J ds.length g' k' m') ∨ ∃ rv, f = .ret rv ∧ RR g' k' m' rv := fun s Q S hq => by
  obtain ⟨oL, hL⟩ := ns_some S.ns
  refine wpAny_For (hit s _ S fun g₁ I fp wr T h₁ tk₁ G X => ?_) hs
  have S₁ := S.grow G
  have oLw : env.locals ∉ wr := fun q => by have := X.new _ q; rw [hL] at this; cases this
  have okw : ∀ b ∈ wr, k b = none := fun b q => by
    cases e : k b with
    | none => rfl
    | some o => have := X.new b q; rw [S.lek b o e] at this; cases this
  -- the state between the turns
  refine codeAny_forLoop_any (R := fun r s' => match r with | .ok f => Q f s' | .error e => cameBackBy (model prog w) A env nE e s')
    (fun n s' => ∃ i g' k' m' h' tk, s' = { s with heap := h', toks := tk } ∧ i ≤ ds.length ∧ n = ds.length + 1 - i ∧ T i h' ∧ SubB g₁ g' ∧ Ext env.locals g k s.heap g' k' m' h' ∧ (∀ b ∈ wr, g' b = none) ∧ (∀ b ∈ wr, k' b = none) ∧ J i g' k' m') ?_ (ds.length + 1)
    ⟨0, g₁, k, m, h₁, tk₁, rfl, Nat.zero_le _, rfl, X.st, .refl, .grow S G, X.off, okw, h0 g₁ G.sub⟩
  rintro n s' ⟨i, g', k', m', h', tk, rfl, hi, rfl, hT, hsub, E, og, ok, hJ⟩
  by_cases hlt : i < ds.length
  · obtain ⟨d, hd⟩ : ∃ d, ds[i]? = some d := ⟨ds[i], List.getElem?_eq_getElem hlt⟩
    refine wpAny_mono (X.step i d { s with heap := h', toks := tk } (fun v s₂ => ∀ (QF : Flow → Shared → Prop) (EF : Value → Shared → Prop),
      (∀ f s₃, (∃ g4 k4 m4 h4 tk4, s₃ = { s with heap := h4, toks := tk4 } ∧ T (i + 1) h4 ∧ SubB g₁ g4 ∧ Ext env.locals g k s.heap g4 k4 m4 h4 ∧ (∀ b ∈ wr, g4 b = none) ∧ (∀ b ∈ wr, k4 b = none) ∧ ((f = .next ∧ J (i + 1) g4 k4 m4) ∨ ∃ rv, f = .ret rv ∧ RR g4 k4 m4 rv)) → QF f s₃) →
      wpAny (model prog w) A (assign target env v) (fun _ s₃ => wpAny (model prog w) A (execs body env) QF EF s₃) EF s₂) hd (fun b o e => E.st.leg b o (hsub b o e)) hT ?_) (fun r s₁ hr => ?_) fun _ _ x => x.elim
    rotate_left
    · cases r with
      | none => exact hr.elim
      | some v =>
        dsimp only at hr
        refine wpAny_mono (noE hr) (fun _ s₂ z => z _ _ ?_) fun _ _ x => x
        rintro f s₃ ⟨g4, k4, m4, h4, tk4, rfl, hT4, hs4, E4, og4, ok4, r⟩
        rcases r with ⟨rfl, hJ'⟩ | ⟨rv, rfl, hr⟩
        · exact ⟨ds.length + 1 - (i + 1), by omega, i + 1, g4, k4, m4, h4, tk4, rfl, hlt, rfl, hT4, hs4, E4, og4, ok4, hJ'⟩
        · exact hq _ g4 k4 m4 h4 tk4 E4 (.inr ⟨rv, rfl, hr⟩)
    intro v h₂ tk₂ hV hT₂ hk₂ QF EF hQF
    have S₂ : St env.locals g' k' m' h₂ := X.next E.st og ok oLw hk₂
    refine noE (turn i d g' k' m' E.sub hd hJ v { s with heap := h₂, toks := tk₂ } _ S₂ (hV.mono hsub) fun g3 k3 m3 h3 tk3 X3 hb => ?_)
    refine noE (hb { s with heap := h3, toks := tk3 } _ X3.st fun f g4 k4 m4 h4 tk4 X4 r => hQF f _ ?_)
    have X34 : Ext env.locals g' k' h₂ g4 k4 m4 h4 := X3.trans X4 (ns_some S₂.ns) S₂.offk S₂.offg
    have E4 : Ext env.locals g k s.heap g4 k4 m4 h4 := by
      have kept : ∀ b o, s.heap.get? b = some o → k b = none → k' b = none := fun b o e n => by
        cases q : k' b with
        | none => rfl
        | some o' => have := E.newk b o' q n; rw [e] at this; cases this
      have up : ∀ b o, s.heap.get? b = some o → k b = none → b ≠ env.locals → h₂.get? b = some o := fun b o e n nl =>
        hk₂ b o (fun q => by have := X.new b q; rw [e] at this; cases this) (E.pres b o e n nl)
      refine ⟨X34.st, E.sub.trans X34.sub, fun b o e n nl => X34.pres b o (up b o e n nl) (kept b o e n) nl, fun b o e n => ?_, fun b o e n => ?_⟩
      · cases q : g' b with
        | some o' => exact E.newg b o' q n
        | none =>
          rcases X34.newg b o e q with r | r
          · cases t : s.heap.get? b with
            | none => exact .inl rfl
            | some o' =>
              cases u : k b with
              | some _ => exact .inr rfl
              | none =>
                by_cases hx : b = env.locals
                · subst hx; have := X34.st.offg; rw [e] at this; cases this
                · rw [up b o' t u hx] at r; cases r
          · cases u : k b with
            | some _ => exact .inr rfl
            | none =>
              obtain ⟨o', ho'⟩ := Option.isSome_iff_exists.mp r
              exact .inl (E.newk b o' ho' u)
      · cases q : k' b with
        | some o' => exact E.newk b o' q n
        | none =>
          have r := X34.newk b o e q
          cases t : s.heap.get? b with
          | none => rfl
          | some o' =>
            by_cases hx : b = env.locals
            · subst hx; have := X34.st.offk; rw [e] at this; cases this
            · rw [up b o' t n hx] at r; cases r
    have keepw : ∀ b ∈ wr, ∀ o, h₂.get? b = some o → h4.get? b = some o := fun b q o e => X34.pres b o e (ok b q) fun q2 => oLw (q2 ▸ q)
    have hT4 : T (i + 1) h4 := X.frame _ _ _ hT₂ fun b hb' o e => by
      rcases X.foot b hb' with q | ⟨ob, q⟩
      · exact keepw b q o e
      · have e1 : h₂.get? b = some ob := S₂.leg b ob (hsub b ob q)
        rw [e1] at e
        rw [← e]
        exact X34.st.leg b ob (X34.sub b ob (hsub b ob q))
    refine ⟨g4, k4, m4, h4, tk4, rfl, hT4, hsub.trans X34.sub, E4, fun b q => ?_, fun b q => ?_, r⟩
    · cases e : g4 b with
      | none => rfl
      | some o =>
        obtain ⟨ob, eb⟩ := X.ob _ _ hT₂ b q
        rcases X34.newg b o e (og b q) with r | r
        · rw [eb] at r; cases r
        · rw [ok b q] at r; cases r
    · cases e : k4 b with
      | none => rfl
      | some o =>
        obtain ⟨ob, eb⟩ := X.ob _ _ hT₂ b q
        have r := X34.newk b o e (ok b q)
        rw [eb] at r; cases r
  · have hin : i = ds.length := by omega
    subst hin
    refine noE (X.done _ _ hT fun h₂ tk₂ hk₂ => ?_)
    have S₂ : St env.locals g' k' m' h₂ := X.next E.st og ok oLw hk₂
    refine wpAny_execs_nil (hq .next g' k' m' h₂ tk₂ ⟨S₂, E.sub, fun b o e n nl => hk₂ b o (fun q => by have := X.new b q; rw [e] at this; cases this) (E.pres b o e n nl), E.newg, E.newk⟩ (.inl ⟨rfl, hJ⟩))
end
end Mine
end
/-! M6 -/
section
open PySem PySem.W PyProof.Rows PySem.Calls
namespace Mine
section
variable {prog : Program} {w : World} {A : Around} {env : Env} {g k : Bs} {m : Mp}
theorem Src.ofWalks {target : Expr} {its : List IK} {h₀ : Heap} {g' : Bs} {h' : Heap} {I : Addr} {fp wr : List Addr} {n : Nat} {P : Nat → Value → Prop} {T : Nat → Heap → Prop} (W : Walks prog w A I fp wr n P T) (hn : n = its.length)
    (hP : ∀ i it v, its[i]? = some it → P i v → ∀ h, LeB g' h → Vl prog w g' it v h) (off : ∀ b ∈ wr, g' b = none) (st : T 0 h') (new : ∀ b ∈ wr, h₀.get? b = none) (foot : ∀ b ∈ fp, b ∈ wr ∨ ∃ o, g' b = some o)
    (ob : ∀ i h, T i h → ∀ b ∈ wr, ∃ o, h.get? b = some o) (go : ∀ i v (s' : Shared) (Q' : Unit → Shared → Prop), T i s'.heap → Q' () s' → wpAny (model prog w) A (letOwnedTupleGo target (.ref I) v) Q' nE s') :
    Src prog w A target its h₀ g' h' I fp wr T where
  step := fun i it s Q hi hg hT hq => W.item i s _ _ (by rw [hn]; exact (List.getElem?_eq_some_iff.mp hi).1) hT fun v h2 tk hp hT2 hk => by
    refine go (i + 1) v _ _ hT2 (hq v h2 tk (hP i it v hi hp h2 fun b o e => hk b o (fun q => by rw [off b q] at e; cases e) (hg b o e)) hT2 hk)
  done := fun s Q hT hq => W.done s Q _ (by rw [hn]; exact hT) hq
  self := fun s Q hT hq => W.self 0 s Q _ hT hq
  frame := W.frame
  st := st
  new := new
  off := off
  foot := foot
  ob := ob
theorem Src.ofWalksT {elts : List Expr} {kk : Nat} {pos : Pos} {its : List IK} {h₀ : Heap} {g' : Bs} {h' : Heap} {I : Addr} {fp wr : List Addr} {n : Nat} {P : Nat → Array Value → Prop} {T : Nat → Heap → Prop} {Mid : Nat → Addr → Heap → Prop} (W : WalksT prog w A I fp wr n P T Mid) (hn : n = its.length)
    (hP : ∀ i it vals, its[i]? = some it → P i vals → ∃ ds, it = .tup ds ∧ RpL prog w g' vals.toList ds) (off : ∀ b ∈ wr, g' b = none) (st : T 0 h') (new : ∀ b ∈ wr, h₀.get? b = none) (foot : ∀ b ∈ fp, b ∈ wr ∨ ∃ o, g' b = some o)
    (ob : ∀ i h, T i h → ∀ b ∈ wr, ∃ o, h.get? b = some o) :
    Src prog w A (.Tuple elts kk pos) its h₀ g' h' I fp wr T where
  step := fun i it s Q hi hg hT hq => W.item i s _ _ (by rw [hn]; exact (List.getElem?_eq_some_iff.mp hi).1) hT fun a vals h2 tk hp _ htup hM hk => by
    dsimp only
    refine W.go elts kk pos i a _ _ _ hM fun h3 hT3 hk3 => ?_
    obtain ⟨ds, rfl, r⟩ := hP i it vals hi hp
    refine hq _ h3 tk ⟨a, vals.toList, rfl, ?_, r⟩ hT3 fun b o hb e => hk3 b o hb (hk b o hb e)
    obtain ⟨o, ho, rest⟩ := htup
    rw [Array.toArray_toList]
    exact ⟨o, hk3 a o (W.apart _ _ _ hM) ho, rest⟩
  done := fun s Q hT hq => W.done s Q _ (by rw [hn]; exact hT) hq
  self := fun s Q hT hq => W.self 0 s Q _ hT hq
  frame := W.frame
  st := st
  new := new
  off := off
  foot := foot
  ob := ob

/-- how a thing of a list is handed on -/
noncomputable def ik : D → IK
  | .tup ds => .tup ds
  | d => .one d
theorem Rp.vl {g : Bs} {v : Value} {d : D} (r : Rp prog w g v d) {h : Heap} (l : LeB g h) : Vl prog w g (ik d) v h := by
  cases r with
  | tup e rl => exact ⟨_, _, rfl, ⟨_, l _ _ e, rfl, 0, rfl⟩, rl⟩
  | none => exact .none
  | bool b => exact .bool b
  | int i t => exact .int i t
  | str x t => exact .str x t
  | bytes b t => exact .bytes b t
  | lst e rl => exact .lst e rl
  | dct e a b => exact .dct e a b
theorem EI.list {iter target : Expr} {ds : List D} (hh : A.handled = none) (he : EV prog w A env g k m iter fun g' v => Rp prog w g' v (.lst ds)) : EI prog w A env g k m iter target (ds.map ik) := fun s Q S hq => by
  refine he s _ S fun g' v h' tk G r => ?_
  cases r with
  | @lst a vs n _ e rl =>
    have hL : h'.IsList a vs.toArray := ⟨_, G.leg _ _ e, rfl, _, rfl⟩
    have hlt : a < h'.objs.size := Heap.lt_size (G.leg _ _ e)
    have hne : a ≠ h'.objs.size := Nat.ne_of_lt hlt
    refine wpAny_pyIter_list (s := ⟨h', s.gens, s.drawn, tk, s.os⟩) hL ?_
    have nw : h'.get? h'.objs.size = none := Heap.get?_none_of_le (Nat.le_refl _)
    have og : g' h'.objs.size = none := by
      cases q : g' h'.objs.size with
      | none => rfl
      | some o => have := G.leg _ _ q; rw [nw] at this; cases this
    refine hq g' h'.objs.size [h'.objs.size, a] [h'.objs.size] _ _ _ (G.trans (.leH G.leg (.push _))) (.ofWalks (Walks.list hh h'.objs.size a hne vs.toArray) (by rw [List.length_map, List.size_toArray, rl.length]) ?_ ?_ ⟨⟨_, Heap.get?_push_size _ rfl, rfl, rfl⟩, hL.at fun o x => Heap.get?_push_of_some _ x⟩ ?_ ?_ ?_ ?_)
    · intro i it v hi hv h l
      rw [List.getElem?_map] at hi
      obtain ⟨d, hd, rfl⟩ := Option.map_eq_some_iff.mp hi
      obtain ⟨v', hv', rv⟩ := rl.get hd
      have : v = v' := by
        have h1 : vs[i]? = some v := by simpa using hv
        rw [hv'] at h1; exact (Option.some.inj h1).symm
      subst this
      exact rv.vl l
    · intro b hb; rw [List.mem_singleton.mp hb]; exact og
    · intro b hb
      rw [List.mem_singleton.mp hb]
      cases q : s.heap.get? h'.objs.size with
      | none => rfl
      | some o => have := G.leh _ _ q; rw [nw] at this; cases this
    · intro b hb
      rcases List.mem_cons.mp hb with rfl | hb
      · exact .inl (.head _)
      · rw [List.mem_singleton.mp hb]; exact .inr ⟨_, e⟩
    · intro i h hT b hb
      rw [List.mem_singleton.mp hb]
      obtain ⟨⟨o, ho, _⟩, _⟩ := hT
      exact ⟨o, ho⟩
    · intro i v s' Q' hT hq'
      exact letGo_listiter hT.1 hq'
/-- the ints of a range -/
noncomputable def rngL (a c : Int) (n : Nat) : List D := (List.range n).map fun i => .int (a + (i : Nat) * c)
end
end Mine
end
/-! M7 -/
section
open PySem PySem.W PyProof.Rows PySem.Calls
namespace Mine
/-- an expression's outcome -/
structure ExE (g k : Bs) (h : Heap) (g' k' : Bs) (h' : Heap) : Prop where
  leg : LeB g' h'
  lek : LeB k' h'
  dis : ∀ b o, g' b = some o → k' b = none
  sub : SubB g g'
  pres : ∀ b o, h.get? b = some o → k b = none → h'.get? b = some o
  newg : ∀ b o, g' b = some o → g b = none → h.get? b = none ∨ (k b).isSome
  newk : ∀ b o, k' b = some o → k b = none → h.get? b = none
theorem ExE.st {L : Addr} {g k g' k' : Bs} {m : Mp} {h h' : Heap} (x : ExE g k h g' k' h') (S : St L g k m h) : St L g' k' m h' := by
  obtain ⟨oL, hL⟩ := ns_some S.ns
  refine ⟨S.ns.at' fun o e => x.pres L o e S.offk, x.leg, x.lek, x.dis, ?_, ?_⟩
  · cases q : g' L with
    | none => rfl
    | some o =>
      rcases x.newg L o q S.offg with r | r
      · rw [hL] at r; cases r
      · rw [S.offk] at r; cases r
  · cases q : k' L with
    | none => rfl
    | some o => have := x.newk L o q S.offk; rw [hL] at this; cases this
theorem ExE.ext {L : Addr} {g k g' k' : Bs} {m : Mp} {h h' : Heap} (x : ExE g k h g' k' h') (S : St L g k m h) : Ext L g k h g' k' m h' := ⟨x.st S, x.sub, fun b o e n _ => x.pres b o e n, x.newg, x.newk⟩
theorem ExE.ofGr {L : Addr} {g k g' : Bs} {m : Mp} {h h' : Heap} (S : St L g k m h) (G : Gr g h g' h') : ExE g k h g' k h' :=
  ⟨G.leg, S.lek.trans G.leh, (S.grow G).dis, G.sub, fun b o e _ => G.leh b o e, fun b o e n => .inl (G.new b o e n), fun b o e n => by rw [n] at e; cases e⟩
theorem ExE.toGr {L : Addr} {g k g' : Bs} {m : Mp} {h h' : Heap} (S : St L g k m h) (x : ExE g k h g' k h') : Gr g h g' h' := by
  refine ⟨x.sub, x.leg, fun b o e => ?_, fun b o e n => ?_⟩
  · cases q : k b with
    | none => exact x.pres b o e q
    | some o' =>
      have h1 := S.lek b o' q
      rw [e] at h1; cases h1
      exact x.lek b o q
  · rcases x.newg b o e n with r | r
    · exact r
    · obtain ⟨o', ho'⟩ := Option.isSome_iff_exists.mp r
      have := x.dis b o e
      rw [ho'] at this; cases this
section
variable {prog : Program} {w : World} {A : Around} {env : Env} {g k : Bs} {m : Mp}
noncomputable def EM (prog : Program) (w : World) (A : Around) (env : Env) (g k : Bs) (m : Mp) (e : Expr) (R : Bs → Bs → Value → Prop) : Prop :=
  ∀ (s : Shared) (Q : Value → Shared → Prop), St env.locals g k m s.heap → (∀ g' k' v h' tk, ExE g k s.heap g' k' h' → R g' k' v → Q v { s with heap := h', toks := tk }) → wpAny (model prog w) A (eval e env) Q nE s
theorem EV.toM {e : Expr} {R : Bs → Value → Prop} (h : EV prog w A env g k m e R) : EM prog w A env g k m e fun g' k' v => k' = k ∧ R g' v := fun s Q S hq => h s Q S fun g' v h' tk G r => hq g' k v h' tk (.ofGr S G) ⟨rfl, r⟩
theorem EM.toV {e : Expr} {R : Bs → Bs → Value → Prop} {R' : Bs → Value → Prop} (h : EM prog w A env g k m e R) (hr : ∀ g' k' v, R g' k' v → k' = k ∧ R' g' v) : EV prog w A env g k m e R' := fun s Q S hq => h s Q S fun g' k' v h' tk x r => by
  obtain ⟨rfl, r'⟩ := hr g' k' v r
  exact hq g' v h' tk (x.toGr S) r'
theorem EM.mono {e : Expr} {R R' : Bs → Bs → Value → Prop} (h : EM prog w A env g k m e R) (hr : ∀ g' k' v, SubB g g' → R g' k' v → R' g' k' v) : EM prog w A env g k m e R' := fun s Q S hq => h s Q S fun g' k' v h' tk x r => hq g' k' v h' tk x (hr g' k' v x.sub r)
theorem E1.setM {x : Str} {p pos : Pos} {e : Expr} {R : Bs → Bs → Value → Prop} (he : EM prog w A env g k m e R) (hl : env.kindOf x = some .local := by rfl)
    (hp : (env.scope.kind == .class || (env.scope.kind == .module && env.locals != env.globals)) = false := by rfl) (hs : swapsWith e (some (.Name x p)) pos.line env = pure false := by rfl) :
    E1 prog w A env g k m (.Assign [.Name x p] e pos) (Nx fun g' k' m' => ∃ v, R g' k' v ∧ m' = upd m x v) := fun s Q S hq =>
  wpAny_Assign_Name (he s _ S fun g' k' v h' tk X r => wpAny_storeName_local hl (X.st S).ns (fun h'' hn hb =>
    hq .next g' k' (upd m x v) h'' _ ((X.ext S).trans (.store (X.st S) hn hb) (ns_some S.ns) S.offk S.offg) ⟨rfl, v, r, rfl⟩) hp) hs

/-! targets -/
theorem EA.name {x : Str} {p : Pos} {d : D} (hl : env.kindOf x = some .local := by rfl) (hp : (env.scope.kind == .class || (env.scope.kind == .module && env.locals != env.globals)) = false := by rfl) :
    EA prog w A env g k m (.Name x p) (.one d) fun g' k' m' => g' = g ∧ k' = k ∧ ∃ v, Rp prog w g v d ∧ m' = upd m x v := fun v s Q S hv hq =>
  wpAny_assign_Name (wpAny_storeName_local hl S.ns (fun h'' hn hb => hq g k (upd m x v) h'' _ (.store S hn hb) ⟨rfl, rfl, v, hv, rfl⟩) hp)
theorem EA.nameC {x : Str} {p : Pos} {d : D} {c : Addr} {o : Obj} {v₀ : Option Value} (hc : env.cells.lookup x = some c) (ho : k c = some o) (hd : o.data = .cell v₀) (hk : env.scope.kind = .function := by rfl) (hl : env.kindOf x = some .cell := by rfl) :
    EA prog w A env g k m (.Name x p) (.one d) fun g' k' m' => g' = g ∧ m' = m ∧ ∃ v o', Rp prog w g v d ∧ o'.data = .cell (some v) ∧ k' = setk k c o' := fun v s Q S hv hq =>
  wpAny_assign_Name (wpAny_storeName_cell hk hl hc ⟨o, S.lek c o ho, hd⟩ fun h'' hv' hb => by
    obtain ⟨o', ho', hd'⟩ := hv'
    exact hq g (setk k c o') m h'' _ (.turn S ho hb ho') ⟨rfl, rfl, v, o', hv, hd', rfl⟩)
theorem EA.mono {t : Expr} {it : IK} {R R' : Bs → Bs → Mp → Prop} (h : EA prog w A env g k m t it R) (hr : ∀ g' k' m', SubB g g' → R g' k' m' → R' g' k' m') : EA prog w A env g k m t it R' := fun v s Q S hv hq => h v s Q S hv fun g' k' m' h' tk x r => hq g' k' m' h' tk x (hr g' k' m' x.sub r)
/-- two names at once -/
theorem EA.two {e₁ e₂ : Expr} {n : Nat} {p : Pos} {d₁ d₂ : D} {R₁ R : Bs → Bs → Mp → Prop} (hh : A.handled = none) (h₁ : EA prog w A env g k m e₁ (.one d₁) R₁) (h₂ : ∀ g' k' m', SubB g g' → R₁ g' k' m' → EA prog w A env g' k' m' e₂ (.one d₂) R)
    (ht : (assignEach [e₁, e₂] env) = [(false, fun v => assign e₁ env v), (false, fun v => assign e₂ env v)] := by rfl) : EA prog w A env g k m (.Tuple [e₁, e₂] n p) (.tup [d₁, d₂]) R := fun v s Q S hv hq => by
  obtain ⟨a, vs, rfl, htup, r⟩ := hv
  cases r with
  | @cons v₁ _ _ _ r₁ r =>
    cases r with
    | @cons v₂ _ _ _ r₂ r =>
      cases r with
      | nil =>
        refine wpAny_assign_Tuple hh htup (by rw [ht]; rfl) (by rw [ht]; rfl) fun h' hb => ?_
        rw [ht]
        have l : LeH s.heap h' := fun b o e => hb b o (Nat.ne_of_lt (Heap.lt_size e)) e
        have X := Ext.grow S (Gr.leH S.leg l)
        refine wpAny_assignInOrder_more (h₁ v₁ ⟨h', s.gens, s.drawn, s.toks, s.os⟩ _ X.st r₁ fun g' k' m' h2 tk x hr => wpAny_assignInOrder_more (h₂ g' k' m' x.sub hr v₂ ⟨h2, s.gens, s.drawn, tk, s.os⟩ _ x.st (Rp.mono x.sub r₂) fun g'' k'' m'' h3 tk3 x3 hr3 => wpAny_assignInOrder_none ?_))
        exact hq g'' k'' m'' h3 tk3 ((X.trans x (ns_some S.ns) S.offk S.offg).trans x3 (ns_some S.ns) S.offk S.offg) hr3
theorem EA.three {e₁ e₂ e₃ : Expr} {n : Nat} {p : Pos} {d₁ d₂ d₃ : D} {R₁ R₂ R : Bs → Bs → Mp → Prop} (hh : A.handled = none) (h₁ : EA prog w A env g k m e₁ (.one d₁) R₁) (h₂ : ∀ g' k' m', SubB g g' → R₁ g' k' m' → EA prog w A env g' k' m' e₂ (.one d₂) R₂)
    (h₃ : ∀ g' k' m', SubB g g' → R₂ g' k' m' → EA prog w A env g' k' m' e₃ (.one d₃) R)
    (ht : (assignEach [e₁, e₂, e₃] env) = [(false, fun v => assign e₁ env v), (false, fun v => assign e₂ env v), (false, fun v => assign e₃ env v)] := by rfl) : EA prog w A env g k m (.Tuple [e₁, e₂, e₃] n p) (.tup [d₁, d₂, d₃]) R := fun v s Q S hv hq => by
  obtain ⟨a, vs, rfl, htup, r⟩ := hv
  cases r with
  | @cons v₁ _ _ _ r₁ r =>
    cases r with
    | @cons v₂ _ _ _ r₂ r =>
      cases r with
      | @cons v₃ _ _ _ r₃ r =>
        cases r with
        | nil =>
          refine wpAny_assign_Tuple hh htup (by rw [ht]; rfl) (by rw [ht]; rfl) fun h' hb => ?_
          rw [ht]
          have l : LeH s.heap h' := fun b o e => hb b o (Nat.ne_of_lt (Heap.lt_size e)) e
          have X := Ext.grow S (Gr.leH S.leg l)
          have tr : ∀ {ga ka ma ha gb kb mb hb'}, Ext env.locals g k s.heap ga ka ma ha → Ext env.locals ga ka ha gb kb mb hb' → Ext env.locals g k s.heap gb kb mb hb' := fun a b => a.trans b (ns_some S.ns) S.offk S.offg
          refine wpAny_assignInOrder_more (h₁ v₁ ⟨h', s.gens, s.drawn, s.toks, s.os⟩ _ X.st r₁ fun g' k' m' h2 tk x hr => wpAny_assignInOrder_more (h₂ g' k' m' x.sub hr v₂ ⟨h2, s.gens, s.drawn, tk, s.os⟩ _ x.st (Rp.mono x.sub r₂) fun g'' k'' m'' h3 tk3 x3 hr3 =>
            wpAny_assignInOrder_more (h₃ g'' k'' m'' (x.sub.trans x3.sub |> fun _ => x3.sub.trans .refl |> fun z => (by exact (x.sub.trans z))) hr3 v₃ ⟨h3, s.gens, s.drawn, tk3, s.os⟩ _ x3.st (Rp.mono (x.sub.trans x3.sub) r₃) fun g4 k4 m4 h4 tk4 x4 hr4 => wpAny_assignInOrder_none ?_)))
          exact hq g4 k4 m4 h4 tk4 (tr (tr (tr X x) x3) x4) hr4
end
end Mine
end
/-! M8 -/
section
open PySem PySem.W PyProof.Rows PySem.Calls
namespace Mine
section
variable {prog : Program} {w : World} {A : Around} {env : Env} {g k : Bs} {m : Mp}
/-- an act of the machine -/
noncomputable def AJ (prog : Program) (w : World) (A : Around) (L : Addr) (g k : Bs) (m : Mp) (act : Sem Unit) (R : Bs → Bs → Mp → Prop) : Prop :=
  ∀ (s : Shared) (Q : Unit → Shared → Prop), St L g k m s.heap → (∀ g' k' m' h' tk, Ext L g k s.heap g' k' m' h' → R g' k' m' → Q () { s with heap := h', toks := tk }) → wpAny (model prog w) A act Q nE s
theorem AJ.mono {L : Addr} {act : Sem Unit} {R R' : Bs → Bs → Mp → Prop} (h : AJ prog w A L g k m act R) (hr : ∀ g' k' m', SubB g g' → R g' k' m' → R' g' k' m') : AJ prog w A L g k m act R' := fun s Q S hq => h s Q S fun g' k' m' h' tk x r => hq g' k' m' h' tk x (hr g' k' m' x.sub r)
theorem AJ.skip {L : Addr} {R : Bs → Bs → Mp → Prop} (h : R g k m) : AJ prog w A L g k m (pure ()) R := fun s Q S hq => wpAny_pure (hq g k m s.heap s.toks (.refl S) h)

/-- an act that ends in a given way -/
noncomputable def AT (prog : Program) (w : World) (A : Around) (L : Addr) (g k : Bs) (m : Mp) (act : Sem Fin) (fin : Fin) (R : Bs → Bs → Mp → Prop) : Prop :=
  ∀ (s : Shared) (Q : Fin → Shared → Prop), St L g k m s.heap → (∀ g' k' m' h' tk, Ext L g k s.heap g' k' m' h' → R g' k' m' → Q fin { s with heap := h', toks := tk }) → wpAny (model prog w) A act Q nE s
theorem AT.mono {L : Addr} {act : Sem Fin} {fin : Fin} {R R' : Bs → Bs → Mp → Prop} (h : AT prog w A L g k m act fin R) (hr : ∀ g' k' m', SubB g g' → R g' k' m' → R' g' k' m') : AT prog w A L g k m act fin R' := fun s Q S hq => h s Q S fun g' k' m' h' tk x r => hq g' k' m' h' tk x (hr g' k' m' x.sub r)

/-- the turns of a comprehension's clause -/
theorem comp_loop {elt target : Expr} {gens : List Comprehension} {scope : Scope} {pos p : Pos} {depth : Nat} {acc : Value} {body : Sem Fin} {I : Addr} {fp wr : List Addr} {T : Nat → Heap → Prop} {its : List IK} {g₁ : Bs} {h₀ : Heap} {s : Shared} {R : Result → Shared → Prop}
    (hct : compTurn (.ListComp elt gens scope pos) depth (.ref I) acc env = (standAt p >>= fun _ => pyNext (.ref I) >>= fun r => match r with
      | none => pure (.done .next)
      | some v => letOwnedTupleGo target (.ref I) v >>= fun _ => assign target env v >>= fun _ => body))
    (J : Nat → Bs → Bs → Mp → Prop) (X : Src prog w A target its h₀ g₁ s.heap I fp wr T) (S : St env.locals g₁ k m s.heap) (okw : ∀ b ∈ wr, k b = none) (oLw : env.locals ∉ wr) (h0 : J 0 g₁ k m)
    (turn : ∀ i it g' k' m', SubB g₁ g' → its[i]? = some it → J i g' k' m' → EA prog w A env g' k' m' target it fun g2 k2 m2 => AT prog w A env.locals g2 k2 m2 body (.again (.compLoop (.ListComp elt gens scope pos) depth (.ref I) acc env)) fun g3 k3 m3 => J (i + 1) g3 k3 m3)
    (hR : ∀ g' k' m' h' tk, St env.locals g' k' m' h' → SubB g₁ g' → (∀ b o, s.heap.get? b = some o → k b = none → b ≠ env.locals → b ∉ wr → h'.get? b = some o) → (∀ b o, g' b = some o → g₁ b = none → s.heap.get? b = none ∨ (k b).isSome) → (∀ b o, k' b = some o → k b = none → s.heap.get? b = none) →
      J its.length g' k' m' → R (.ok .next) { s with heap := h', toks := tk }) :
    codeAny (model prog w) A (.compLoop (.ListComp elt gens scope pos) depth (.ref I) acc env) R s := by
  refine codeAny_loop rfl (fun n s' => ∃ i g' k' m' h' tk, s' = { s with heap := h', toks := tk } ∧ i ≤ its.length ∧ n = its.length + 1 - i ∧ T i h' ∧ SubB g₁ g' ∧ St env.locals g' k' m' h' ∧
      (∀ b o, s.heap.get? b = some o → k b = none → b ≠ env.locals → b ∉ wr → h'.get? b = some o) ∧ (∀ b o, g' b = some o → g₁ b = none → s.heap.get? b = none ∨ (k b).isSome) ∧ (∀ b o, k' b = some o → k b = none → s.heap.get? b = none) ∧
      (∀ b ∈ wr, g' b = none) ∧ (∀ b ∈ wr, k' b = none) ∧ J i g' k' m') ?_ (its.length + 1)
    ⟨0, g₁, k, m, s.heap, s.toks, rfl, Nat.zero_le _, rfl, X.st, .refl, S, fun _ _ e _ _ _ => e, fun b o e n => (by rw [n] at e; cases e), fun b o e n => (by rw [n] at e; cases e), X.off, okw, h0⟩
  rintro n s' ⟨i, g', k', m', h', tk, rfl, hi, rfl, hT, hsub, S', pres, newg, newk, og, ok, hJ⟩
  show wpAny _ _ ((compTurn (.ListComp elt gens scope pos) depth (.ref I) acc env).onRaise (fun x => do noteFrame x env; theTreesLotGoes x)) _ _ _
  refine wpAny_noted ?_
  rw [hct]
  refine wpAny_bind (wpAny_standAt (wpAny_bind ?_))
  by_cases hlt : i < its.length
  · obtain ⟨d, hd⟩ : ∃ d, its[i]? = some d := ⟨its[i], List.getElem?_eq_getElem hlt⟩
    refine wpAny_mono (X.step i d { s with heap := h', toks := tk } (fun v s₂ => ∀ (QF : Fin → Shared → Prop) (EF : Value → Shared → Prop),
      (∀ s₃, (∃ g4 k4 m4 h4 tk4, s₃ = { s with heap := h4, toks := tk4 } ∧ T (i + 1) h4 ∧ SubB g₁ g4 ∧ St env.locals g4 k4 m4 h4 ∧ (∀ b o, s.heap.get? b = some o → k b = none → b ≠ env.locals → b ∉ wr → h4.get? b = some o) ∧
        (∀ b o, g4 b = some o → g₁ b = none → s.heap.get? b = none ∨ (k b).isSome) ∧ (∀ b o, k4 b = some o → k b = none → s.heap.get? b = none) ∧ (∀ b ∈ wr, g4 b = none) ∧ (∀ b ∈ wr, k4 b = none) ∧ J (i + 1) g4 k4 m4) → QF (.again (.compLoop (.ListComp elt gens scope pos) depth (.ref I) acc env)) s₃) →
      wpAny (model prog w) A (assign target env v) (fun _ s₃ => wpAny (model prog w) A body QF EF s₃) EF s₂) hd (fun b o e => S'.leg b o (hsub b o e)) hT ?_) (fun r s₁ hr => ?_) fun _ _ x => x.elim
    rotate_left
    · cases r with
      | none => exact hr.elim
      | some v =>
        dsimp only at hr ⊢
        refine wpAny_bind (wpAny_mono (noE hr) (fun _ s₂ z => wpAny_bind (z _ _ ?_)) fun _ _ x => x)
        rintro s₃ ⟨g4, k4, m4, h4, tk4, rfl, hT4, hs4, S4, p4, n4, m4', og4, ok4, hJ'⟩
        exact ⟨rfl, its.length + 1 - (i + 1), by omega, i + 1, g4, k4, m4, h4, tk4, rfl, hlt, rfl, hT4, hs4, S4, p4, n4, m4', og4, ok4, hJ'⟩
    intro v h₂ tk₂ hV hT₂ hk₂ QF EF hQF
    have S₂ : St env.locals g' k' m' h₂ := X.next S' og ok oLw hk₂
    refine noE (turn i d g' k' m' hsub hd hJ v { s with heap := h₂, toks := tk₂ } _ S₂ (hV.mono hsub) fun g3 k3 m3 h3 tk3 X3 hb => ?_)
    refine noE (hb { s with heap := h3, toks := tk3 } _ X3.st fun g4 k4 m4 h4 tk4 X4 r => hQF _ ?_)
    have X34 : Ext env.locals g' k' h₂ g4 k4 m4 h4 := X3.trans X4 (ns_some S₂.ns) S₂.offk S₂.offg
    have kept : ∀ b o, s.heap.get? b = some o → k b = none → k' b = none := fun b o e n => by
      cases q : k' b with
      | none => rfl
      | some o' => have := newk b o' q n; rw [e] at this; cases this
    have up : ∀ b o, s.heap.get? b = some o → k b = none → b ≠ env.locals → b ∉ wr → h₂.get? b = some o := fun b o e n nl nw => hk₂ b o nw (pres b o e n nl nw)
    have keepw : ∀ b ∈ wr, ∀ o, h₂.get? b = some o → h4.get? b = some o := fun b q o e => X34.pres b o e (ok b q) fun q2 => oLw (q2 ▸ q)
    have hT4 : T (i + 1) h4 := X.frame _ _ _ hT₂ fun b hb' o e => by
      rcases X.foot b hb' with q | ⟨ob, q⟩
      · exact keepw b q o e
      · have e1 : h₂.get? b = some ob := S₂.leg b ob (hsub b ob q)
        rw [e1] at e
        rw [← e]
        exact X34.st.leg b ob (X34.sub b ob (hsub b ob q))
    have og4 : ∀ b ∈ wr, g4 b = none := fun b q => by
      cases e : g4 b with
      | none => rfl
      | some o =>
        obtain ⟨ob, eb⟩ := X.ob _ _ hT₂ b q
        rcases X34.newg b o e (og b q) with r | r
        · rw [eb] at r; cases r
        · rw [ok b q] at r; cases r
    have ok4 : ∀ b ∈ wr, k4 b = none := fun b q => by
      cases e : k4 b with
      | none => rfl
      | some o =>
        obtain ⟨ob, eb⟩ := X.ob _ _ hT₂ b q
        have r := X34.newk b o e (ok b q)
        rw [eb] at r; cases r
    refine ⟨g4, k4, m4, h4, tk4, rfl, hT4, hsub.trans X34.sub, X34.st, fun b o e n nl nw => X34.pres b o (up b o e n nl nw) (kept b o e n) nl, fun b o e n => ?_, fun b o e n => ?_, og4, ok4, r⟩
    · cases q : g' b with
      | some o' => exact newg b o' q n
      | none =>
        rcases X34.newg b o e q with r | r
        · cases t : s.heap.get? b with
          | none => exact .inl rfl
          | some o' =>
            cases u : k b with
            | some _ => exact .inr rfl
            | none =>
              by_cases hx : b = env.locals
              · subst hx; have := X34.st.offg; rw [e] at this; cases this
              · by_cases hw : b ∈ wr
                · rw [og4 b hw] at e; cases e
                · rw [up b o' t u hx hw] at r; cases r
        · cases u : k b with
          | some _ => exact .inr rfl
          | none =>
            obtain ⟨o', ho'⟩ := Option.isSome_iff_exists.mp r
            exact .inl (newk b o' ho' u)
    · cases q : k' b with
      | some o' => exact newk b o' q n
      | none =>
        have r := X34.newk b o e q
        cases t : s.heap.get? b with
        | none => rfl
        | some o' =>
          by_cases hx : b = env.locals
          · subst hx; have := X34.st.offk; rw [e] at this; cases this
          · by_cases hw : b ∈ wr
            · rw [ok4 b hw] at e; cases e
            · rw [up b o' t n hx hw] at r; cases r
  · have hin : i = its.length := by omega
    subst hin
    refine noE (X.done _ _ hT fun h₂ tk₂ hk₂ => ?_)
    have S₂ : St env.locals g' k' m' h₂ := X.next S' og ok oLw hk₂
    exact wpAny_pure (hR g' k' m' h₂ tk₂ S₂ hsub (fun b o e n nl nw => hk₂ b o nw (pres b o e n nl nw)) newg newk hJ)
end
end Mine
end
/-! M9 -/
section
open PySem PySem.W PyProof.Rows PySem.Calls
namespace Mine
theorem setk_setk {k : Bs} {c : Addr} {o o' : Obj} : setk (setk k c o) c o' = setk k c o' := by
  funext b; unfold setk; split <;> rfl
theorem Ext.away {L C : Addr} {g k g' k' : Bs} {m' : Mp} {h h' h'' : Heap} (X : Ext L g k h g' k' m' h') (hC : h.get? C = none) (hg : g' C = none) (hk : k' C = none) (hL : C ≠ L) (s : Heap.SameBut C h' h'') : Ext L g k h g' k' m' h'' := by
  refine ⟨⟨X.st.ns.sameBut s (Ne.symm hL), fun b o e => (s.2 b (fun q => by subst q; rw [hg] at e; cases e)).trans (X.st.leg b o e), fun b o e => (s.2 b (fun q => by subst q; rw [hk] at e; cases e)).trans (X.st.lek b o e), X.st.dis, X.st.offg, X.st.offk⟩, X.sub, fun b o e n nl => (s.2 b (fun q => by subst q; rw [hC] at e; cases e)).trans (X.pres b o e n nl), X.newg, X.newk⟩
theorem Gr.away {C : Addr} {g g' : Bs} {h h' h'' : Heap} (X : Gr g h g' h') (hC : h.get? C = none) (hg : g' C = none) (s : Heap.SameBut C h' h'') : Gr g h g' h'' :=
  ⟨X.sub, fun b o e => (s.2 b (fun q => by subst q; rw [hg] at e; cases e)).trans (X.leg b o e), fun b o e => (s.2 b (fun q => by subst q; rw [hC] at e; cases e)).trans (X.leh b o e), X.new⟩
section
variable {prog : Program} {w : World} {A : Around} {env : Env} {g k : Bs} {m : Mp}

noncomputable abbrev kEq (k : Bs) : Bs → Bs → Prop := fun _ k' => k' = k
/-- one more thing in the list that is made -/
theorem emitM {Y : Addr} {elt : Expr} {ys : List Value} {n : Nat} {out : List D} {d : D} {c : Fin} {KI : Bs → Bs → Prop} (he : EM prog w A env g (setk k Y (lstO ys n)) m elt fun g' k' v => ∃ k₂, k' = setk k₂ Y (lstO ys n) ∧ KI g' k₂ ∧ Rp prog w g' v d) (hy : RpL prog w g ys out) (hsz : out.length ≤ sizeLine) :
    AT prog w A env.locals g (setk k Y (lstO ys n)) m ((eval elt env >>= fun x => call (.builtin "list.append") [.ref Y, x] >>= fun _ => pure ()) >>= fun _ => pure c) c
      fun g' k' m' => m' = m ∧ ∃ k₂ ys' n', k' = setk k₂ Y (lstO ys' n') ∧ KI g' k₂ ∧ RpL prog w g' ys' (out ++ [d]) := fun s Q S hq => by
  refine wpAny_bind (wpAny_bind (he s _ S fun g' k' v h' tk X r => ?_))
  obtain ⟨k₂, rfl, hki, hr⟩ := r
  have S' := X.st S
  refine wpAny_bind (append_at (n := n) (its := ys.toArray) (S'.lek Y _ setk_self) (fun h2 hs ho => wpAny_pure (wpAny_pure ?_)) (by rw [List.size_toArray, hy.length]; exact hsz))
  have ho' : h2.get? Y = some (lstO (ys ++ [v]) (n + 1)) := by rw [ho]; simp [lstO]
  have Z := (X.ext S).trans (.turn S' setk_self hs ho') (ns_some S.ns) S.offk S.offg
  rw [setk_setk] at Z
  exact hq g' _ m h2 tk Z ⟨rfl, k₂, ys ++ [v], n + 1, rfl, hki, RpL.append (.cons hr .nil) (hy.mono X.sub)⟩
theorem emit {Y : Addr} {elt : Expr} {ys : List Value} {n : Nat} {out : List D} {d : D} {c : Fin} (he : EV prog w A env g (setk k Y (lstO ys n)) m elt fun g' v => Rp prog w g' v d) (hy : RpL prog w g ys out) (hsz : out.length ≤ sizeLine) :
    AT prog w A env.locals g (setk k Y (lstO ys n)) m ((eval elt env >>= fun x => call (.builtin "list.append") [.ref Y, x] >>= fun _ => pure ()) >>= fun _ => pure c) c
      fun g' k' m' => m' = m ∧ ∃ ys' n', k' = setk k Y (lstO ys' n') ∧ RpL prog w g' ys' (out ++ [d]) :=
  (emitM (KI := kEq k) (he.toM.mono fun g' k' v _ ⟨e, r⟩ => ⟨k, e, rfl, r⟩) hy hsz).mono fun g' k' m' _ ⟨e, k₂, ys', n', e1, e2, r⟩ => ⟨e, ys', n', by rw [e1, e2], r⟩

theorem comp_start1 {R : Result → Shared → Prop} {s : Shared} {elt target iter : Expr} {ifs : List Expr} {g0 : Comprehension} {rest : List Comprehension} {scope : Scope} {pos : Pos} {it acc : Value}
    (h0 : codeAny (model prog w) A (.compLoop (.ListComp elt (g0 :: ⟨target, iter, ifs, 0⟩ :: rest) scope pos) 1 it acc env) R s)
    (h : wpAny (model prog w) A (pyIter it) (fun it' s' => codeAny (model prog w) A (.compLoop (.ListComp elt (g0 :: ⟨target, iter, ifs, 0⟩ :: rest) scope pos) 1 it' acc env) R s')
      (notedBy (model prog w) A env fun x s' => R (.error x) s') s) :
    codeAny (model prog w) A (.compStart (.ListComp elt (g0 :: ⟨target, iter, ifs, 0⟩ :: rest) scope pos) 1 it acc env) R s := by
  refine codeAny_of_tree ?_
  show wpAny _ _ ((compStart (.ListComp elt (g0 :: ⟨target, iter, ifs, 0⟩ :: rest) scope pos) 1 it acc env).onRaise (fun x => do noteFrame x env; standAt theWindowsPlace)) _ _ s
  refine wpAny_notedAt ?_
  unfold compStart
  show wpAny _ _ (ask >>= _) _ _ s
  refine wpAny_bind (wpAny_askSetting (wpAny_ite ?_))
  split
  · first
      | exact wpAny_bind (wpAny_pure (wpAny_pure (And.intro rfl h0)))
      | exact wpAny_pure (And.intro rfl h0)
  · first
      | exact wpAny_bind (wpAny_rule (wpAny_bind (wpAny_standAt (wpAny_bind (wpAny_mono h (fun it' s' h' => wpAny_pure (And.intro rfl h')) fun _ _ x => x)))))
      | (refine wpAny_bind (wpAny_rule ?_); show wpAny _ _ (standAt iter.pos >>= _) _ _ s; exact wpAny_bind (wpAny_standAt (wpAny_bind (wpAny_mono h (fun it' s' h' => wpAny_pure (And.intro rfl h')) fun _ _ x => x))))

/-- the turns of the clause behind -/
theorem nested {Y : Addr} {elt t2 iter2 : Expr} {g0 : Comprehension} {scope : Scope} {pos : Pos} {ys : List Value} {n : Nat} {c : Fin} {its : List IK} {out : List D} (outs : Nat → List D) (PM : Mp → Prop)
    (hit : EI prog w A env g (setk k Y (lstO ys n)) m iter2 t2 its) (hs : ∀ x, foldedSetIterable iter2 env x = pure x) (hD : k Y = none) (hm : PM m) (hy : RpL prog w g ys (outs 0)) (hsz : ∀ i, (outs i).length ≤ sizeLine)
    (turn : ∀ i it g' ys n m', SubB g g' → its[i]? = some it → PM m' → EA prog w A env g' (setk k Y (lstO ys n)) m' t2 it fun g2 k2 m2 => k2 = setk k Y (lstO ys n) ∧ PM m2 ∧ ∃ d, outs (i + 1) = outs i ++ [d] ∧ EV prog w A env g2 (setk k Y (lstO ys n)) m2 elt fun g' v => Rp prog w g' v d) :
    AT prog w A env.locals g (setk k Y (lstO ys n)) m (eval iter2 env >>= fun x => standAt iter2.pos >>= fun _ => foldedSetIterable iter2 env x >>= fun x => holding [x] (pyIter x) >>= fun it => runOwn (.compStart (.ListComp elt [g0, ⟨t2, iter2, [], 0⟩] scope pos) 1 it (.ref Y) env) env >>= fun _ => pure c) c
      fun g' k' m' => ∃ ys' n', k' = setk k Y (lstO ys' n') ∧ RpL prog w g' ys' (outs its.length) := fun s Q S hq => by
  refine wpAny_bind (wpAny_mono (hit s (fun it s₁ => ∀ Q' : Value → Shared → Prop, (∀ g' k' m' h' tk, Ext env.locals g (setk k Y (lstO ys n)) s.heap g' k' m' h' → (∃ ys' n', k' = setk k Y (lstO ys' n') ∧ RpL prog w g' ys' (outs its.length)) → Q c { s with heap := h', toks := tk }) →
      wpAny (model prog w) A (runOwn (.compStart (.ListComp elt [g0, ⟨t2, iter2, [], 0⟩] scope pos) 1 it (.ref Y) env) env >>= fun _ => pure c) Q nE s₁) S fun g₁ I fp wr T h₁ tk₁ G X Q' hq' => ?_)
      (fun xv s₁ z => wpAny_bind (wpAny_standAt (wpAny_bind (wpAny_of_eq (hs xv) (wpAny_bind (wpAny_holding (wpAny_mono z (fun it s₂ z2 => z2 (fun _ _ => True) hq) fun _ _ e => e))))))) fun _ _ e => e)
  obtain ⟨oL, hL⟩ := ns_some S.ns
  have S₁ := S.grow G
  have oLw : env.locals ∉ wr := fun q => by have := X.new _ q; rw [hL] at this; cases this
  have okw : ∀ b ∈ wr, (setk k Y (lstO ys n)) b = none := fun b q => by
    cases e : (setk k Y (lstO ys n)) b with
    | none => rfl
    | some o => have := X.new b q; rw [S.lek b o e] at this; cases this
  have loop : codeAny (model prog w) A (.compLoop (.ListComp elt [g0, ⟨t2, iter2, [], 0⟩] scope pos) 1 (.ref I) (.ref Y) env) (fun r s' => match r with | .ok f => wpAny (model prog w) A (pure c : Sem Fin) Q nE s' | .error e => cameBackBy (model prog w) A env nE e s') { s with heap := h₁, toks := tk₁ } := by
    refine comp_loop (p := iter2.pos) (body := (eval elt env >>= fun x => call (.builtin "list.append") [.ref Y, x] >>= fun _ => pure ()) >>= fun _ => pure (.again (.compLoop (.ListComp elt [g0, ⟨t2, iter2, [], 0⟩] scope pos) 1 (.ref I) (.ref Y) env))) (by rfl)
      (fun i g' k' m' => PM m' ∧ ∃ ys' n', k' = setk k Y (lstO ys' n') ∧ RpL prog w g' ys' (outs i)) X S₁ okw oLw ⟨hm, ys, n, rfl, hy.mono G.sub⟩ ?_ ?_
    · rintro i it g' k' m' hsub hi ⟨hpm, ys', n', rfl, hr⟩
      intro v s3 Q3 S3 hv hq3
      refine turn i it g' ys' n' m' (G.sub.trans hsub) hi hpm v s3 Q3 S3 hv fun g2 k2 m2 h2 tk2 x2 r2 => hq3 _ _ _ _ _ x2 ?_
      obtain ⟨rfl, hpm2, d, hd, hE⟩ := r2
      exact (emit hE (hr.mono x2.sub) (hsz i)).mono fun g4 k4 m4 s4 ⟨e4, ys4, n4, e5, r5⟩ => ⟨by rw [e4]; exact hpm2, ys4, n4, e5, by rw [hd]; exact r5⟩
    · intro g' k' m' h' tk S' sub pres newg newk ⟨_, hJ⟩
      refine wpAny_pure (hq' g' k' m' h' tk ⟨S', G.sub.trans sub, fun b o e nk nl => pres b o (G.leh b o e) nk nl (fun q => by have := X.new b q; rw [e] at this; cases this), fun b o e nn => ?_, fun b o e nn => ?_⟩ hJ)
      · cases q : g₁ b with
        | some o' => exact .inl (G.new b o' q nn)
        | none =>
          rcases newg b o e q with r | r
          · left
            cases t : s.heap.get? b with
            | none => rfl
            | some o' => have r' : h₁.get? b = none := r; rw [G.leh b o' t] at r'; cases r'
          · exact .inr r
      · have r : h₁.get? b = none := newk b o e nn
        cases t : s.heap.get? b with
        | none => rfl
        | some o' => rw [G.leh b o' t] at r; cases r
  refine wpAny_bind (wpAny_runOwn (c := .compStart (.ListComp elt [g0, ⟨t2, iter2, [], 0⟩] scope pos) 1 (.ref I) (.ref Y) env) (h := none) ?_)
  show codeAny (model prog w) A _ _ _
  exact comp_start1 loop (noE (X.self _ _ X.st loop))

/-- what is walked over, where its making may turn things -/
noncomputable def EIM (prog : Program) (w : World) (A : Around) (env : Env) (g k : Bs) (m : Mp) (iter target : Expr) (its : List IK) (KI : Bs → Bs → Prop) : Prop :=
  ∀ (s : Shared) (Q : Value → Shared → Prop), St env.locals g k m s.heap → (∀ g' k' I fp wr T h' tk, ExE g k s.heap g' k' h' → KI g' k' → Src prog w A target its s.heap g' h' I fp wr T → Q (.ref I) { s with heap := h', toks := tk }) →
    wpAny (model prog w) A (eval iter env) (fun xv s₁ => wpAny (model prog w) A (pyIter xv) Q nE s₁) nE s
theorem EI.toM {iter target : Expr} {its : List IK} (h : EI prog w A env g k m iter target its) : EIM prog w A env g k m iter target its (kEq k) := fun s Q S hq => h s Q S fun g' I fp wr T h' tk G X => hq g' k I fp wr T h' tk (.ofGr S G) rfl X

/-- a comprehension: its body's first clause, as given -/
theorem comp_core {elt target iter : Expr} {ifs : List Expr} {gens : List Comprehension} {scope : Scope} {pos p p' : Pos} {cl : List (Str × Addr)} {its : List IK} {use : Option (Value → Sem Unit)} {Q : Value → Shared → Prop} {s : Shared} {body : Addr → Addr → Addr → Sem Fin} (KI : Bs → Bs → Prop) (outs : Nat → List Mine.D)
    (hct : ∀ I C D, compTurn (.ListComp elt (⟨target, iter, ifs, 0⟩ :: gens) scope pos) 0 (.ref I) (.ref D) (compEnvC scope cl C env) = (standAt p >>= fun _ => pyNext (.ref I) >>= fun r => match r with
      | none => pure (.done .next)
      | some v => letOwnedTupleGo target (.ref I) v >>= fun _ => assign target (compEnvC scope cl C env) v >>= fun _ => body I C D))
    (S : St env.locals g k m s.heap) (hit : EIM prog w A env g k m iter target its KI) (hdom : ∀ g' k', KI g' k' → ∀ b, k' b = none ↔ k b = none) (h0 : outs 0 = [])
    (turn : ∀ I C D i it g' k₁ ys n m', SubB g g' → KI g' k₁ → its[i]? = some it → k₁ D = none → g' D = none → D ≠ C → RpL prog w g' ys (outs i) → EA prog w A (compEnvC scope cl C env) g' (setk k₁ D (lstO ys n)) m' target it fun g2 k2 m2 =>
      AT prog w A C g2 k2 m2 (body I C D) (.again (.compLoop (.ListComp elt (⟨target, iter, ifs, 0⟩ :: gens) scope pos) 0 (.ref I) (.ref D) (compEnvC scope cl C env))) fun g3 k3 m3 => ∃ k₂ ys' n', k3 = setk k₂ D (lstO ys' n') ∧ KI g3 k₂ ∧ RpL prog w g3 ys' (outs (i + 1)))
    (hs : ∀ x, foldedSetIterable iter env x = pure x) (hclos : closureFor scope env = pure cl)
    (hkind : scope.kind = .function) (hnames : ∀ x ∈ scope.names, x.2 = .local → scope.names.lookup x.1 = some .local) (hcell : ∀ y ∈ scope.names, y.2 ≠ .cell)
    (hfin : ∀ D C g₁ g' k' h' tk m', s.heap.get? C = none → g' C = none → k' C = none → C ≠ D → h'.Ns C m' → ExE g k s.heap g' k' h' → SubB g₁ g' → KI g₁ k' → Rp prog w g' (.ref D) (.lst (outs its.length)) → compPost (model prog w) A nE use Q (.ref D) C (.ok .next) { s with heap := h', toks := tk }) :
    wpAny (model prog w) A (comprehension (.ListComp elt (⟨target, iter, ifs, 0⟩ :: gens) scope pos) scope env p' (newList []) false (eval iter env) use) Q nE s := by
  refine wpAny_comprehension_free rfl hs hclos hkind hnames ?_
  refine hit s _ S fun g₁ k₁ I fp wr T h₁ tk₁ E₁ K₁ X => ?_
  refine wpAny_newObj_type (wpAny_newFunctionEnv hcell (by intro y hy; simp at hy) (fun h₂ hns₂ hsb₂ => ?_) hkind)
  dsimp only at hns₂ hsb₂ ⊢
  have hpush : h₁.push { cls := .type "list", dict := none, data := .seq ([] : List Value).toArray } = h₁.push (lstO [] 0) := rfl
  rw [hpush] at hns₂ hsb₂ ⊢
  generalize hD : h₁.objs.size = D at *
  generalize hC : (h₁.push (lstO [] 0)).objs.size = C at *
  have hCD : C = D + 1 := by rw [← hC, ← hD, Heap.size_push]
  have nD : h₁.get? D = none := by rw [← hD]; exact Heap.get?_none_of_le (Nat.le_refl _)
  have nC : h₁.get? C = none := Heap.get?_none_of_le (by omega)
  have stays : ∀ b, h₁.get? b = none → s.heap.get? b = none := fun b nb => by
    cases q : s.heap.get? b with
    | none => rfl
    | some o =>
      cases r : k b with
      | none => have := E₁.pres _ _ q r; rw [nb] at this; cases this
      | some o' =>
        cases t : k₁ b with
        | none => rw [(hdom _ _ K₁ b).mp t] at r; cases r
        | some o2 => have := E₁.lek _ _ t; rw [nb] at this; cases this
  have nDs := stays D nD
  have nCs := stays C nC
  have DC : D ≠ C := by omega
  have gD : g₁ D = none := by
    cases q : g₁ D with
    | none => rfl
    | some o => have := E₁.leg _ _ q; rw [nD] at this; cases this
  have gC : g₁ C = none := by
    cases q : g₁ C with
    | none => rfl
    | some o => have := E₁.leg _ _ q; rw [nC] at this; cases this
  have S₁ := E₁.st S
  have kD : k₁ D = none := by
    cases q : k₁ D with
    | none => rfl
    | some o => have := S₁.lek _ _ q; rw [nD] at this; cases this
  have kC : k₁ C = none := by
    cases q : k₁ C with
    | none => rfl
    | some o => have := S₁.lek _ _ q; rw [nC] at this; cases this
  have up : ∀ b o, h₁.get? b = some o → h₂.get? b = some o := fun b o e => by
    have hlt := Heap.lt_size e
    exact hsb₂.extBut b o (Nat.ne_of_lt (by rw [hCD]; exact Nat.lt_succ_of_lt (hD ▸ hlt))) (Heap.get?_push_of_some _ (Heap.get?_push_of_some _ e))
  have hacc : h₂.get? D = some (lstO [] 0) := hsb₂.extBut _ _ DC (Heap.get?_push_of_some _ (hD ▸ Heap.get?_push_size _ rfl))
  have wnew : ∀ b ∈ wr, ∃ o, h₁.get? b = some o := X.ob _ _ X.st
  have Dw : D ∉ wr := fun q => by obtain ⟨o, e⟩ := wnew _ q; rw [nD] at e; cases e
  have Cw : C ∉ wr := fun q => by obtain ⟨o, e⟩ := wnew _ q; rw [nC] at e; cases e
  have S₂ : St C g₁ (setk k₁ D (lstO [] 0)) _ h₂ := ⟨hns₂, fun b o e => up b o (S₁.leg b o e), fun b o e => (by
      unfold setk at e
      split at e
      · rename_i q; subst q; cases e; exact hacc
      · exact up b o (S₁.lek b o e)), fun b o e => (by rw [setk_ne (fun q => by subst q; rw [gD] at e; cases e)]; exact S₁.dis b o e), gC, by rw [setk_ne (Ne.symm DC)]; exact kC⟩
  have okw : ∀ b ∈ wr, (setk k₁ D (lstO [] 0)) b = none := fun b q => by
    have bD : b ≠ D := fun e => by subst e; exact Dw q
    rw [setk_ne bD, hdom _ _ K₁]
    cases e : k b with
    | none => rfl
    | some o => have := X.new b q; rw [S.lek b o e] at this; cases this
  have X₂ : Src prog w A target its s.heap g₁ h₂ I fp wr T := ⟨X.step, X.done, X.self, X.frame, X.frame _ _ _ X.st fun b _ o e => up b o e, X.new, X.off, X.foot, X.ob⟩
  have loop : codeAny (model prog w) A (.compLoop (.ListComp elt (⟨target, iter, ifs, 0⟩ :: gens) scope pos) 0 (.ref I) (.ref D) (compEnvC scope cl C env)) (compPost (model prog w) A nE use Q (.ref D) C) { s with heap := h₂, toks := tk₁ + ([] : List (Str × Value)).length } := by
    refine comp_loop (env := compEnvC scope cl C env) (p := p) (hct I C D) (fun i g' k' m' => ∃ k₂ ys' n', k' = setk k₂ D (lstO ys' n') ∧ KI g' k₂ ∧ RpL prog w g' ys' (outs i)) X₂ S₂ okw Cw ⟨k₁, [], 0, rfl, K₁, by rw [h0]; exact .nil⟩ ?_ ?_
    · rintro i it g' k' m' hsub hi ⟨k₂, ys', n', rfl, hki, hr⟩
      intro v s3 Q3 S3 hv hq3
      have gD' : g' D = none := by
        cases q : g' D with
        | none => rfl
        | some o => have := S3.dis _ _ q; rw [setk_self] at this; cases this
      exact turn I C D i it g' k₂ ys' n' m' (E₁.sub.trans hsub) hki hi ((hdom _ _ hki D).mpr ((hdom _ _ K₁ D).mp kD)) gD' DC hr v s3 Q3 S3 hv hq3
    · rintro g' k' m' h' tk S' sub pres newg newk ⟨k₂, ys', n', rfl, hki, hr⟩
      have gD' : g' D = none := by
        cases q : g' D with
        | none => rfl
        | some o => have := S'.dis _ _ q; rw [setk_self] at this; cases this
      have kD2 : k₂ D = none := (hdom _ _ hki D).mpr ((hdom _ _ K₁ D).mp kD)
      have sub' : SubB g' (setk g' D (lstO ys' n')) := fun b o e => by rw [setk_ne (fun q => by subst q; rw [gD'] at e; cases e)]; exact e
      refine hfin D C g' (setk g' D (lstO ys' n')) k₂ h' tk m' nCs (by rw [setk_ne (Ne.symm DC)]; exact S'.offg) ((hdom _ _ hki C).mpr ((hdom _ _ K₁ C).mp kC)) (Ne.symm DC) S'.ns ⟨fun b o e => ?_, fun b o e => ?_, fun b o e => ?_, (E₁.sub.trans sub).trans sub', fun b o e nn => ?_, fun b o e nn => ?_, fun b o e nn => ?_⟩ sub' hki (.lst setk_self (hr.mono sub'))
      · unfold setk at e
        split at e
        · rename_i q; subst q; cases e; exact S'.lek _ _ setk_self
        · exact S'.leg b o e
      · exact S'.lek b o (by rw [setk_ne (fun q => by subst q; rw [kD2] at e; cases e)]; exact e)
      · unfold setk at e
        split at e
        · rename_i q; subst q; exact kD2
        · rename_i bD; have := S'.dis b o e; rw [setk_ne bD] at this; exact this
      · have bw : b ∉ wr := fun q => by have := X.new b q; rw [e] at this; cases this
        have bC : b ≠ C := fun q => by subst q; rw [nCs] at e; cases e
        have bD : b ≠ D := fun q => by subst q; rw [nDs] at e; cases e
        exact pres b o (up b o (E₁.pres b o e nn)) (by rw [setk_ne bD]; exact (hdom _ _ K₁ b).mpr nn) bC bw
      · by_cases bD : b = D
        · subst bD; exact .inl nDs
        · rw [setk_ne bD] at e
          cases q : g₁ b with
          | some o' => exact E₁.newg b o' q nn
          | none =>
            cases u : k b with
            | some _ => exact .inr rfl
            | none =>
              left
              rcases newg b o e q with r | r
              · exact stays b (by
                  cases t : h₁.get? b with
                  | none => rfl
                  | some o' => have r' : h₂.get? b = none := r; rw [up b o' t] at r'; cases r')
              · rw [setk_ne bD, (hdom _ _ K₁ b).mpr u] at r; cases r
      · rw [(hdom _ _ hki b).mpr nn] at e; cases e
  have hI : wpAny (model prog w) A (pyIter (.ref I)) (fun it' s' => codeAny (model prog w) A (.compLoop (.ListComp elt (⟨target, iter, ifs, 0⟩ :: gens) scope pos) 0 it' (.ref D) (compEnvC scope cl C env)) (compPost (model prog w) A nE use Q (.ref D) C) s') nE { s with heap := h₂, toks := tk₁ + ([] : List (Str × Value)).length } := X₂.self _ _ X₂.st loop
  exact codeAny_compStart_list loop (noE hI)
end
end Mine
end
/-! M10 -/
section
open PySem PySem.W PyProof.Rows PySem.Calls
namespace Mine
section
variable {prog : Program} {w : World} {A : Around} {env : Env} {g k : Bs} {m : Mp}
/-- a comprehension that gives a list -/
noncomputable def CKM (prog : Program) (w : World) (A : Around) (env : Env) (g k : Bs) (m : Mp) (elt : Expr) (gens : List Comprehension) (scope : Scope) (pos : Pos) (KI : Bs → Bs → Prop) (out : List D) : Prop :=
  ∀ (s : Shared) (use : Option (Value → Sem Unit)) (Q : Value → Shared → Prop) (p' : Pos), St env.locals g k m s.heap →
    (∀ D C g₁ g' k' h' tk m', s.heap.get? C = none → g' C = none → k' C = none → C ≠ D → h'.Ns C m' → ExE g k s.heap g' k' h' → SubB g₁ g' → KI g₁ k' → Rp prog w g' (.ref D) (.lst out) → compPost (model prog w) A nE use Q (.ref D) C (.ok .next) { s with heap := h', toks := tk }) →
    wpAny (model prog w) A (comprehension (.ListComp elt gens scope pos) scope env p' (newList []) false (firstIter gens env) use) Q nE s
noncomputable abbrev CK (prog : Program) (w : World) (A : Around) (env : Env) (g k : Bs) (m : Mp) (elt : Expr) (gens : List Comprehension) (scope : Scope) (pos : Pos) (out : List D) : Prop := CKM prog w A env g k m elt gens scope pos (kEq k) out
theorem ExE.away {C : Addr} {g k g' k' : Bs} {h h' h'' : Heap} (X : ExE g k h g' k' h') (hC : h.get? C = none) (hg : g' C = none) (hk : k' C = none) (s : Heap.SameBut C h' h'') : ExE g k h g' k' h'' :=
  ⟨fun b o e => (s.2 b (fun q => by subst q; rw [hg] at e; cases e)).trans (X.leg b o e), fun b o e => (s.2 b (fun q => by subst q; rw [hk] at e; cases e)).trans (X.lek b o e), X.dis, X.sub, fun b o e n => (s.2 b (fun q => by subst q; rw [hC] at e; cases e)).trans (X.pres b o e n), X.newg, X.newk⟩
theorem CKM.em {KI : Bs → Bs → Prop} {elt : Expr} {g0 : Comprehension} {gens : List Comprehension} {scope : Scope} {pos : Pos} {out : List D} (h : CKM prog w A env g k m elt (g0 :: gens) scope pos KI out) (hf : g0.is_async = 0 := by rfl) : EM prog w A env g k m (.ListComp elt (g0 :: gens) scope pos) fun g' k' v => (∃ g₁, SubB g₁ g' ∧ KI g₁ k') ∧ Rp prog w g' v (.lst out) := fun s Q S hq => by
  have e0 : firstAsync (g0 :: gens) = false := by obtain ⟨a, b, c, d⟩ := g0; dsimp only at hf; subst hf; rfl
  rw [eval_ListComp, e0]
  exact h s none Q _ S fun D C g₁ g' k' h' tk m' hC gC kC CD ns X s1 K1 r => ⟨m', ns, fun h'' hs => hq g' k' _ h'' tk (X.away hC gC kC hs) ⟨⟨g₁, s1, K1⟩, r⟩⟩
theorem CKM.setM {KI : Bs → Bs → Prop} {elt : Expr} {g0 : Comprehension} {gens : List Comprehension} {scope : Scope} {pos p spos : Pos} {y : Str} {out : List D} (h : CKM prog w A env g k m elt (g0 :: gens) scope pos KI out) (hf : g0.is_async = 0 := by rfl)
    (hsw : swapsWith (.ListComp elt (g0 :: gens) scope pos) (some (.Name y p)) spos.line env = pure true := by rfl) (hl : env.kindOf y = some .local := by rfl)
    (hp : (env.scope.kind == .class || (env.scope.kind == .module && env.locals != env.globals)) = false := by rfl) :
    E1 prog w A env g k m (.Assign [.Name y p] (.ListComp elt (g0 :: gens) scope pos) spos) (Nx fun g' k' m' => (∃ g₁, SubB g₁ g' ∧ KI g₁ k') ∧ ∃ v, Rp prog w g' v (.lst out) ∧ m' = upd m y v) := fun s Q S hq => by
  have e0 : firstAsync (g0 :: gens) = false := by obtain ⟨a, b, c, d⟩ := g0; dsimp only at hf; subst hf; rfl
  rw [exec_Assign_Name_used _ _ _ _ hsw]
  refine wpAny_bind (wpAny_standAt (wpAny_bind ?_))
  show wpAny _ A (do let _ ← comprehension (.ListComp elt (g0 :: gens) scope pos) scope env _ (newList []) (firstAsync (g0 :: gens)) (firstIter (g0 :: gens) env) (some (assign (.Name y p) env))) _ _ s
  rw [e0]
  refine wpAny_bind (wpAny_mono (h s (some (assign (.Name y p) env)) (fun _ s' => Q .next s') _ S fun D C g₁ g' k' h' tk m' hC gC kC CD ns X s1 K1 r => ?_) (fun _ s' hq => wpAny_pure (wpAny_pure hq)) fun _ _ e => e)
  have S' := X.st S
  obtain ⟨oL, hL⟩ := ns_some S.ns
  have hLC : env.locals ≠ C := by rintro rfl; rw [hC] at hL; cases hL
  show wpAny _ A (assign (.Name y p) env (.ref D)) _ _ _
  refine wpAny_assign_Name (wpAny_storeName_local hl S'.ns (fun h₂ hn₂ hs₂ => ?_) hp)
  refine ⟨m', ns.sameBut hs₂ (Ne.symm hLC), fun h₃ hs₃ => ?_⟩
  exact hq .next g' k' _ h₃ _ (((X.ext S).trans (.store S' hn₂ hs₂) (ns_some S.ns) S.offk S.offg).away hC gC kC (Ne.symm hLC) hs₃) ⟨rfl, ⟨g₁, s1, K1⟩, _, r, rfl⟩
theorem CKM.ev {elt : Expr} {g0 : Comprehension} {gens : List Comprehension} {scope : Scope} {pos : Pos} {out : List D} (h : CK prog w A env g k m elt (g0 :: gens) scope pos out) (hf : g0.is_async = 0 := by rfl) : EV prog w A env g k m (.ListComp elt (g0 :: gens) scope pos) fun g' v => Rp prog w g' v (.lst out) :=
  (CKM.em h hf).toV fun g' k' v ⟨⟨_, _, e⟩, r⟩ => ⟨e, r⟩
theorem CKM.set {elt : Expr} {g0 : Comprehension} {gens : List Comprehension} {scope : Scope} {pos p spos : Pos} {y : Str} {out : List D} (h : CK prog w A env g k m elt (g0 :: gens) scope pos out) (hf : g0.is_async = 0 := by rfl)
    (hsw : swapsWith (.ListComp elt (g0 :: gens) scope pos) (some (.Name y p)) spos.line env = pure true := by rfl) (hl : env.kindOf y = some .local := by rfl)
    (hp : (env.scope.kind == .class || (env.scope.kind == .module && env.locals != env.globals)) = false := by rfl) :
    E1 prog w A env g k m (.Assign [.Name y p] (.ListComp elt (g0 :: gens) scope pos) spos) (Nx fun g' k' m' => k' = k ∧ ∃ v, Rp prog w g' v (.lst out) ∧ m' = upd m y v) :=
  (CKM.setM h hf hsw hl hp).mono fun g' k' m' f _ ⟨e, ⟨_, _, e2⟩, r⟩ => ⟨e, e2, r⟩

theorem SubB.setk {k : Bs} {D : Addr} {o : Obj} (h : k D = none) : SubB k (setk k D o) := fun b o' e => by rw [setk_ne (fun q => by subst q; rw [h] at e; cases e)]; exact e

/-- one clause, no test -/
theorem CK.one {elt target iter : Expr} {scope : Scope} {pos : Pos} {cl : List (Str × Addr)} {its : List IK} {ds : List D} (hlen : ds.length = its.length) (hsz : ds.length ≤ sizeLine) (hit : EI prog w A env g k m iter target its)
    (turn : ∀ (C : Addr) (i : Nat) (it : IK) d g' k' m', SubB g g' → SubB k k' → its[i]? = some it → ds[i]? = some d → EA prog w A (compEnvC scope cl C env) g' k' m' target it fun g2 k2 m2 => k2 = k' ∧ EV prog w A (compEnvC scope cl C env) g2 k' m2 elt fun g3 v => Rp prog w g3 v d)
    (hclos : closureFor scope env = pure cl := by rfl) (hs : ∀ x, foldedSetIterable iter env x = pure x := by intro _; rfl)
    (hkind : scope.kind = .function := by rfl) (hnames : ∀ x ∈ scope.names, x.2 = .local → scope.names.lookup x.1 = some .local := by decide) (hcell : ∀ y ∈ scope.names, y.2 ≠ .cell := by decide) :
    CK prog w A env g k m elt [⟨target, iter, [], 0⟩] scope pos ds := fun s use Q p' S hfin => by
  refine comp_core (kEq k) (p := iter.pos) (cl := cl) (its := its) (body := fun I C D => (eval elt (compEnvC scope cl C env) >>= fun x => call (.builtin "list.append") [.ref D, x] >>= fun _ => pure ()) >>= fun _ => pure (.again (.compLoop (.ListComp elt [⟨target, iter, [], 0⟩] scope pos) 0 (.ref I) (.ref D) (compEnvC scope cl C env))))
    (fun i => ds.take i) (fun _ _ _ => by rfl) S hit.toM (fun _ _ e b => by rw [e]) rfl ?_ hs hclos hkind hnames hcell (by rw [← hlen, List.take_of_length_le (Nat.le_refl _)]; exact hfin)
  intro I C D i it g' k₁ ys n m' hsub hki hi kD gD DC hr v s3 Q3 S3 hv hq3
  have hki' : k₁ = k := hki
  cases hki'
  obtain ⟨d, hd⟩ : ∃ d, ds[i]? = some d := ⟨ds[i]'(by rw [hlen]; exact (List.getElem?_eq_some_iff.mp hi).1), List.getElem?_eq_getElem _⟩
  refine turn C i it d g' (setk k D (lstO ys n)) m' hsub (SubB.setk kD) hi hd v s3 Q3 S3 hv fun g2 k2 m2 h2 tk2 x2 r2 => hq3 _ _ _ _ _ x2 ?_
  obtain ⟨rfl, hE⟩ := r2
  exact (emit (env := compEnvC scope cl C env) hE (hr.mono x2.sub) (by rw [List.length_take]; omega)).mono fun g4 k4 m4 s4 ⟨e4, ys4, n4, e5, r5⟩ => ⟨_, ys4, n4, e5, rfl, by rw [List.take_add_one, hd]; exact r5⟩

/-- one clause, no test; what it reckons may turn things -/
theorem CKM.oneM {KI : Bs → Bs → Prop} {elt target iter : Expr} {scope : Scope} {pos : Pos} {cl : List (Str × Addr)} {its : List IK} {ds : List D} (hlen : ds.length = its.length) (hsz : ds.length ≤ sizeLine) (hit : EIM prog w A env g k m iter target its KI) (hdom : ∀ g' k', KI g' k' → ∀ b, k' b = none ↔ k b = none)
    (turn : ∀ (C : Addr) (i : Nat) (it : IK) d g' k₁ D o m', SubB g g' → KI g' k₁ → k₁ D = none → its[i]? = some it → ds[i]? = some d → EA prog w A (compEnvC scope cl C env) g' (setk k₁ D o) m' target it fun g2 k2 m2 => k2 = setk k₁ D o ∧
      EM prog w A (compEnvC scope cl C env) g2 (setk k₁ D o) m2 elt fun g3 k3 v => ∃ k₂, k3 = setk k₂ D o ∧ KI g3 k₂ ∧ Rp prog w g3 v d)
    (hclos : closureFor scope env = pure cl := by rfl) (hs : ∀ x, foldedSetIterable iter env x = pure x := by intro _; rfl)
    (hkind : scope.kind = .function := by rfl) (hnames : ∀ x ∈ scope.names, x.2 = .local → scope.names.lookup x.1 = some .local := by decide) (hcell : ∀ y ∈ scope.names, y.2 ≠ .cell := by decide) :
    CKM prog w A env g k m elt [⟨target, iter, [], 0⟩] scope pos KI ds := fun s use Q p' S hfin => by
  refine comp_core KI (p := iter.pos) (cl := cl) (its := its) (body := fun I C D => (eval elt (compEnvC scope cl C env) >>= fun x => call (.builtin "list.append") [.ref D, x] >>= fun _ => pure ()) >>= fun _ => pure (.again (.compLoop (.ListComp elt [⟨target, iter, [], 0⟩] scope pos) 0 (.ref I) (.ref D) (compEnvC scope cl C env))))
    (fun i => ds.take i) (fun _ _ _ => by rfl) S hit hdom rfl ?_ hs hclos hkind hnames hcell (by rw [← hlen, List.take_of_length_le (Nat.le_refl _)]; exact hfin)
  intro I C D i it g' k₁ ys n m' hsub hki hi kD gD DC hr v s3 Q3 S3 hv hq3
  obtain ⟨d, hd⟩ : ∃ d, ds[i]? = some d := ⟨ds[i]'(by rw [hlen]; exact (List.getElem?_eq_some_iff.mp hi).1), List.getElem?_eq_getElem _⟩
  refine turn C i it d g' k₁ D (lstO ys n) m' hsub hki kD hi hd v s3 Q3 S3 hv fun g2 k2 m2 h2 tk2 x2 r2 => hq3 _ _ _ _ _ x2 ?_
  obtain ⟨rfl, hE⟩ := r2
  exact (emitM (env := compEnvC scope cl C env) hE (hr.mono x2.sub) (by rw [List.length_take]; omega)).mono fun g4 k4 m4 s4 ⟨e4, k₂, ys4, n4, e5, hk5, r5⟩ => ⟨k₂, ys4, n4, e5, hk5, by rw [List.take_add_one, hd]; exact r5⟩

/-- one clause, one test -/
theorem CK.oneIf {elt target iter test : Expr} {scope : Scope} {pos : Pos} {cl : List (Str × Addr)} {its : List IK} {ds : List (Option D)} (hlen : ds.length = its.length) (hsz : ds.length ≤ sizeLine) (hit : EI prog w A env g k m iter target its)
    (turn : ∀ (C : Addr) (i : Nat) (it : IK) d g' k' m', SubB g g' → SubB k k' → its[i]? = some it → ds[i]? = some d → EA prog w A (compEnvC scope cl C env) g' k' m' target it fun g2 k2 m2 => k2 = k' ∧ ET prog w A (compEnvC scope cl C env) g2 k' m2 test d.isSome ∧ ∀ d', d = some d' → EV prog w A (compEnvC scope cl C env) g2 k' m2 elt fun g3 v => Rp prog w g3 v d')
    (hclos : closureFor scope env = pure cl := by rfl) (hs : ∀ x, foldedSetIterable iter env x = pure x := by intro _; rfl)
    (hkind : scope.kind = .function := by rfl) (hnames : ∀ x ∈ scope.names, x.2 = .local → scope.names.lookup x.1 = some .local := by decide) (hcell : ∀ y ∈ scope.names, y.2 ≠ .cell := by decide) :
    CK prog w A env g k m elt [⟨target, iter, [test], 0⟩] scope pos (ds.filterMap id) := fun s use Q p' S hfin => by
  refine comp_core (kEq k) (p := iter.pos) (cl := cl) (its := its) (body := fun I C D => do
        let mut ok := true
        for c in [test] do
          if ok then ok ← isTrue c (compEnvC scope cl C env) (eval c (compEnvC scope cl C env))
        if ok then
          (do let _ ← call (.builtin "list.append") [.ref D, ← eval elt (compEnvC scope cl C env)])
        again (.compLoop (.ListComp elt [⟨target, iter, [test], 0⟩] scope pos) 0 (.ref I) (.ref D) (compEnvC scope cl C env)))
    (fun i => (ds.take i).filterMap id) (fun _ _ _ => by rfl) S hit.toM (fun _ _ e b => by rw [e]) rfl ?_ hs hclos hkind hnames hcell (by rw [← hlen, List.take_of_length_le (Nat.le_refl _)]; exact hfin)
  intro I C D i it g' k₁ ys n m' hsub hki hi kD gD DC hr v s3 Q3 S3 hv hq3
  have hki' : k₁ = k := hki
  cases hki'
  obtain ⟨d, hd⟩ : ∃ d, ds[i]? = some d := ⟨ds[i]'(by rw [hlen]; exact (List.getElem?_eq_some_iff.mp hi).1), List.getElem?_eq_getElem _⟩
  refine turn C i it d g' (setk k D (lstO ys n)) m' hsub (SubB.setk kD) hi hd v s3 Q3 S3 hv fun g2 k2 m2 h2 tk2 x2 r2 => hq3 _ _ _ _ _ x2 ?_
  obtain ⟨rfl, hT, hE⟩ := r2
  intro s4 Q4 S4 hq4
  refine wpAny_bind (wpAny_tests_one (hT s4 _ S4 fun h5 tk5 l5 => ?_))
  have X5 := Ext.grow S4 (Gr.leH S4.leg l5)
  cases d with
  | none => exact wpAny_pure (hq4 _ _ _ _ _ X5 ⟨_, ys, n, rfl, rfl, by rw [List.take_add_one, hd, List.filterMap_append]; simpa using hr.mono x2.sub⟩)
  | some d =>
    have hz : ((ds.take i).filterMap id).length ≤ sizeLine := Nat.le_trans (List.length_filterMap_le _ _) (by rw [List.length_take]; omega)
    exact emit (env := compEnvC scope cl C env) (c := .again (.compLoop (.ListComp elt [⟨target, iter, [test], 0⟩] scope pos) 0 (.ref I) (.ref D) (compEnvC scope cl C env))) (hE d rfl) (hr.mono x2.sub) hz { s4 with heap := h5, toks := tk5 } Q4 X5.st fun g6 k6 m6 h6 tk6 x6 ⟨e6, ys6, n6, ek6, r6⟩ =>
      hq4 g6 k6 m6 h6 tk6 (X5.trans x6 (ns_some S4.ns) S4.offk S4.offg) ⟨_, ys6, n6, ek6, rfl, by rw [List.take_add_one, hd, List.filterMap_append]; simpa using r6⟩

/-- two clauses -/
theorem CK.two {elt t1 i1 t2 i2 : Expr} {scope : Scope} {pos : Pos} {cl : List (Str × Addr)} {its : List IK} {dss : List (List D)} (hlen : dss.length = its.length) (hsz : dss.flatten.length ≤ sizeLine) (hit : EI prog w A env g k m i1 t1 its)
    (turn : ∀ (C : Addr) (i : Nat) (it : IK) (ds : List D) g' k' m', SubB g g' → SubB k k' → its[i]? = some it → dss[i]? = some ds → EA prog w A (compEnvC scope cl C env) g' k' m' t1 it fun g2 k2 m2 => k2 = k' ∧ ∃ (its2 : List IK) (PM : Mp → Prop), its2.length = ds.length ∧ PM m2 ∧ EI prog w A (compEnvC scope cl C env) g2 k' m2 i2 t2 its2 ∧
      ∀ (j : Nat) (it2 : IK) (d : D) g3 k3 m3, SubB g2 g3 → SubB k k3 → its2[j]? = some it2 → ds[j]? = some d → PM m3 → EA prog w A (compEnvC scope cl C env) g3 k3 m3 t2 it2 fun g4 k4 m4 => k4 = k3 ∧ PM m4 ∧ EV prog w A (compEnvC scope cl C env) g4 k3 m4 elt fun g5 v => Rp prog w g5 v d)
    (hclos : closureFor scope env = pure cl := by rfl) (hs : ∀ x, foldedSetIterable i1 env x = pure x := by intro _; rfl) (hs2 : ∀ C x, foldedSetIterable i2 (compEnvC scope cl C env) x = pure x := by intro _ _; rfl)
    (hkind : scope.kind = .function := by rfl) (hnames : ∀ x ∈ scope.names, x.2 = .local → scope.names.lookup x.1 = some .local := by decide) (hcell : ∀ y ∈ scope.names, y.2 ≠ .cell := by decide) :
    CK prog w A env g k m elt [⟨t1, i1, [], 0⟩, ⟨t2, i2, [], 0⟩] scope pos dss.flatten := fun s use Q p' S hfin => by
  refine comp_core (kEq k) (p := i1.pos) (cl := cl) (its := its) (body := fun I C D => eval i2 (compEnvC scope cl C env) >>= fun x => standAt i2.pos >>= fun _ => foldedSetIterable i2 (compEnvC scope cl C env) x >>= fun x => holding [x] (pyIter x) >>= fun it =>
      runOwn (.compStart (.ListComp elt [⟨t1, i1, [], 0⟩, ⟨t2, i2, [], 0⟩] scope pos) 1 it (.ref D) (compEnvC scope cl C env)) (compEnvC scope cl C env) >>= fun _ => pure (.again (.compLoop (.ListComp elt [⟨t1, i1, [], 0⟩, ⟨t2, i2, [], 0⟩] scope pos) 0 (.ref I) (.ref D) (compEnvC scope cl C env))))
    (fun i => (dss.take i).flatten) (fun _ _ _ => by rfl) S hit.toM (fun _ _ e b => by rw [e]) rfl ?_ hs hclos hkind hnames hcell (by rw [← hlen, List.take_of_length_le (Nat.le_refl _)]; exact hfin)
  intro I C D i it g' k₁ ys n m' hsub hki hi kD gD DC hr v s3 Q3 S3 hv hq3
  have hki' : k₁ = k := hki
  cases hki'
  obtain ⟨ds, hd⟩ : ∃ d, dss[i]? = some d := ⟨dss[i]'(by rw [hlen]; exact (List.getElem?_eq_some_iff.mp hi).1), List.getElem?_eq_getElem _⟩
  refine turn C i it ds g' (setk k D (lstO ys n)) m' hsub (SubB.setk kD) hi hd v s3 Q3 S3 hv fun g2 k2 m2 h2 tk2 x2 r2 => hq3 _ _ _ _ _ x2 ?_
  obtain ⟨rfl, its2, PM, hl2, hpm, hE, ht⟩ := r2
  have hflat : (dss.take (i + 1)).flatten = (dss.take i).flatten ++ ds := by rw [List.take_add_one, hd, List.flatten_append]; simp
  have hle : (dss.take i).flatten.length + ds.length ≤ dss.flatten.length := by
    rw [← List.length_append, ← hflat]
    conv => rhs; rw [← List.take_append_drop (i + 1) dss, List.flatten_append, List.length_append]
    exact Nat.le_add_right _ _
  refine (nested (env := compEnvC scope cl C env) (out := []) (fun j => (dss.take i).flatten ++ ds.take j) PM hE (hs2 C) kD hpm (by simpa using hr.mono x2.sub) (fun j => by rw [List.length_append, List.length_take]; omega) ?_).mono fun g4 k4 m4 s4 ⟨ys4, n4, e5, r5⟩ => ⟨_, ys4, n4, e5, rfl, by rw [hflat]; rw [hl2, List.take_of_length_le (Nat.le_refl _)] at r5; exact r5⟩
  intro j it2 g3 ys3 n3 m3 hs3 hj hpm3
  obtain ⟨d, hd2⟩ : ∃ d, ds[j]? = some d := ⟨ds[j]'(by rw [← hl2]; exact (List.getElem?_eq_some_iff.mp hj).1), List.getElem?_eq_getElem _⟩
  refine (ht j it2 d g3 (setk k D (lstO ys3 n3)) m3 hs3 (SubB.setk kD) hj hd2 hpm3).mono fun g5 k5 m5 s5 ⟨e5, hp5, hE5⟩ => ⟨e5, hp5, d, ?_, hE5⟩
  rw [List.take_add_one, hd2, ← List.append_assoc]; rfl
end
end Mine
end
/-! M11 -/
section
open PySem PySem.W PyProof.Rows PySem.Calls
namespace Mine
/-- what stands ahead of the law's call -/
noncomputable def Base (w : World) (g : Bs) : Prop := ∃ (h₀ : Heap) (p : Program) (loose : List Str) (mean : ExcName → Option Value) (mg mb : Str → Option Value),
  (∀ b o, h₀.get? b = some o → g b = some o) ∧ (hd.heap_39 w.params).In h₀ ∧ Top p loose mean mg mb h₀
theorem Base.mono {w : World} {g g' : Bs} (B : Base w g) (s : SubB g g') : Base w g' := by
  obtain ⟨h₀, p, l, me, mg, mb, a, b, c⟩ := B
  exact ⟨h₀, p, l, me, mg, mb, fun x o e => s x o (a x o e), b, c⟩
theorem Base.at {w : World} {g : Bs} (B : Base w g) {a : Addr} {o : Obj} (e : (hd.heap_39 w.params).lookup a = some o) : g a = some o := by
  obtain ⟨h₀, p, l, me, mg, mb, x, b, c⟩ := B
  exact x a o (b a o e)
theorem Base.code {w : World} {g : Bs} (B : Base w g) {cd : Value} {q : Str} (e : codeIn (hd.heap_39 w.params) cd q = true) : ∀ h, LeB g h → h.CodeRec cd q := fun h l => by
  obtain ⟨h₀, p, lo, me, mg, mb, x, b, c⟩ := B
  exact codeRec_of (b.keeps fun y o e => l y o (x y o e)) e
theorem Base.lim {w : World} {g : Bs} (B : Base w g) : ∀ h, LeB g h → h.NoLimit := fun h l => by
  obtain ⟨h₀, p, lo, me, mg, mb, x, b, c⟩ := B
  exact c.nolimit.keeps fun y o e => l y o (x y o e)

section
variable {prog : Program} {w : World} {A : Around} {env : Env} {g k : Bs} {m : Mp}
theorem EP.glob {x : Str} {pos : Pos} {v : Value} (B : Base w g) (e : nsIn (hd.heap_39 w.params) mainGlobals x = some (some v) := by rfl) (hk : env.scope.kind = .function := by rfl) (hx : env.kindOf x = some .globalImplicit := by rfl) (hg : env.globals = mainGlobals := by rfl)
    (hd : (x == ("__debug__" : Str)) = false := by decide) : EP prog w A env g k m (.Name x pos) (isV v) := fun s Q S hq => by
  obtain ⟨h₀, p, lo, me, mg, mb, a, b, c⟩ := B
  exact Name_function_global hk hx (loadGlobal_global (hg ▸ c.g.keeps fun y o e => S.leg y o (a y o e)) (mg_of b c.g e) (hq v s.heap s.toks .refl rfl)) hd
theorem EP.bi {x : Str} {pos : Pos} {v : Value} (B : Base w g) (hv : bootBuiltins x = some v := by rfl) (e : nsIn (hd.heap_39 w.params) mainGlobals x = some Option.none := by rfl) (hn : x ≠ "__name__" := by decide) (hk : env.scope.kind = .function := by rfl) (hx : env.kindOf x = some .globalImplicit := by rfl) (hg : env.globals = mainGlobals := by rfl) (hb : env.builtins = builtinsNs := by rfl)
    (hd : (x == ("__debug__" : Str)) = false := by decide) : EP prog w A env g k m (.Name x pos) (isV v) := fun s Q S hq => by
  obtain ⟨h₀, p, lo, me, mg, mb, a, b, c⟩ := B
  exact Name_function_global hk hx (loadGlobal_builtin (hg ▸ c.g.keeps fun y o e => S.leg y o (a y o e)) (mg_none_of b c.g e) (hb ▸ c.b.keeps fun y o e => S.leg y o (a y o e)) ((c.builtins x hn).trans hv) (hq v s.heap s.toks .refl rfl)) hd

theorem Gr.push {g : Bs} {h : Heap} (l : LeB g h) (o : Obj) (hf : o.isFreed = false := by rfl) : Gr g h (setk g h.objs.size o) (h.push o) := by
  have nw : h.get? h.objs.size = Option.none := Heap.get?_none_of_le (Nat.le_refl _)
  have og : g h.objs.size = Option.none := by
    cases q : g h.objs.size with
    | none => rfl
    | some o => have := l _ _ q; rw [nw] at this; cases this
  refine ⟨SubB.setk og, fun b o' e => ?_, .push _, fun b o' e n => ?_⟩
  · unfold Mine.setk at e
    split at e
    · rename_i q; subst q; cases e; exact Heap.get?_push_size _ hf
    · exact Heap.get?_push_of_some _ (l b o' e)
  · unfold Mine.setk at e
    split at e
    · rename_i q; subst q; exact nw
    · rw [n] at e; cases e

/-! ranges -/
noncomputable def RngV (g : Bs) (r : Value) (a b c : Int) : Prop := ∃ x t u v, r = .ref x ∧ g x = some { cls := .type "range", data := .fields #[.int a t, .int b u, .int c v] }
theorem EI.rng {iter target : Expr} {a b c : Int} {n : Nat} (hh : A.handled = .none) (he : EV prog w A env g k m iter fun g' v => RngV g' v a b c)
    (hs : Builtin.Range.small a b c = true) (hn : Builtin.Range.rangeSize a b c = (n : Int)) (ht : ∀ I v, letOwnedTupleGo target (.ref I) v = pure () := by intro _ _; rfl) : EI prog w A env g k m iter target ((rngL a c n).map .one) := fun s Q S hq => by
  refine he s _ S fun g' v h' tk G r => ?_
  obtain ⟨x, t, u, v', rfl, e⟩ := r
  refine wpAny_pyIter_range (s := ⟨h', s.gens, s.drawn, tk, s.os⟩) (G.leg _ _ e) hs ?_
  rw [hn]
  have nw : h'.get? h'.objs.size = .none := Heap.get?_none_of_le (Nat.le_refl _)
  have og : g' h'.objs.size = .none := by
    cases q : g' h'.objs.size with
    | none => rfl
    | some o => have := G.leg _ _ q; rw [nw] at this; cases this
  refine hq g' h'.objs.size [h'.objs.size] [h'.objs.size] _ _ _ (G.trans (.leH G.leg (.push _))) (.ofWalks ((Walks.range hh h'.objs.size a c n)) (by rw [List.length_map, rngL, List.length_map, List.length_range]) ?_ ?_ ?_ ?_ ?_ ?_ ?_)
  · rintro i it v hi ⟨t', rfl⟩ h _
    rw [List.getElem?_map, rngL, List.getElem?_map] at hi
    obtain ⟨d, hd, rfl⟩ := Option.map_eq_some_iff.mp hi
    obtain ⟨j, hj, rfl⟩ := Option.map_eq_some_iff.mp hd
    obtain ⟨hlt, e⟩ := List.getElem?_eq_some_iff.mp hj
    rw [List.getElem_range] at e
    subst e
    exact .int _ _
  · intro b hb; rw [List.mem_singleton.mp hb]; exact og
  · simpa using Heap.get?_push_size _ rfl
  · intro b hb
    rw [List.mem_singleton.mp hb]
    cases q : s.heap.get? h'.objs.size with
    | none => rfl
    | some o => have := G.leh _ _ q; rw [nw] at this; cases this
  · intro b hb; exact .inl hb
  · intro i h hT b hb; rw [List.mem_singleton.mp hb]; exact ⟨_, hT⟩
  · intro i v s' Q' hT hq'
    rw [ht]
    exact wpAny_pure hq'
theorem EV.range1 {np pos : Pos} {e : Expr} {b : Int} (B : Base w g) (hn : EP prog w A env g k m (.Name "range" np) (isV (.type "range"))) (he : EP prog w A env g k m e (isI b)) (hst : starEach [e] env = (false, eval e env) :: starEach [] env := by rfl)
    (hpl : ((backTo pos (starEach [e] env)).any (·.1) || (backToKw pos (keywordEach [] env)).any (·.1.isNone)) = false := by rfl) : EV prog w A env g k m (.Call (.Name "range" np) [e] [] pos) fun g' r => RngV g' r 0 b 1 :=
  EV.call hn trivial (.one he hst) (fun g' vs _ ⟨v, e, t, ev⟩ s Q S hq => by
    subst e ev
    exact call_range_1 (hq _ _ _ _ (.push S.leg _) ⟨_, _, _, _, rfl, setk_self⟩)) hst hpl
theorem EV.range2 {np pos : Pos} {e e' : Expr} {a b : Int} (B : Base w g) (hn : EP prog w A env g k m (.Name "range" np) (isV (.type "range"))) (he : EP prog w A env g k m e (isI a)) (he' : EP prog w A env g k m e' (isI b)) (hst : starEach [e, e'] env = (false, eval e env) :: starEach [e'] env := by rfl) (hst' : starEach [e'] env = (false, eval e' env) :: starEach [] env := by rfl)
    (hpl : ((backTo pos (starEach [e, e'] env)).any (·.1) || (backToKw pos (keywordEach [] env)).any (·.1.isNone)) = false := by rfl) : EV prog w A env g k m (.Call (.Name "range" np) [e, e'] [] pos) fun g' r => RngV g' r a b 1 :=
  EV.call hn trivial (.two he he' hst hst') (fun g' vs _ ⟨v, v', e, ⟨t, ev⟩, ⟨t', ev'⟩⟩ s Q S hq => by
    subst e ev ev'
    exact call_range_2 (hq _ _ _ _ (.push S.leg _) ⟨_, _, _, _, rfl, setk_self⟩)) hst hpl
theorem EV.range3 {np pos : Pos} {e e' e'' : Expr} {a b c : Int} (B : Base w g) (hc : c ≠ 0) (hp : Builtin.divisionGoesByPylong (b - a) c = false) (hn : EP prog w A env g k m (.Name "range" np) (isV (.type "range"))) (he : EP prog w A env g k m e (isI a)) (he' : EP prog w A env g k m e' (isI b)) (he'' : EP prog w A env g k m e'' (isI c))
    (hst : starEach [e, e', e''] env = (false, eval e env) :: starEach [e', e''] env := by rfl) (hst' : starEach [e', e''] env = (false, eval e' env) :: starEach [e''] env := by rfl) (hst'' : starEach [e''] env = (false, eval e'' env) :: starEach [] env := by rfl)
    (hpl : ((backTo pos (starEach [e, e', e''] env)).any (·.1) || (backToKw pos (keywordEach [] env)).any (·.1.isNone)) = false := by rfl) : EV prog w A env g k m (.Call (.Name "range" np) [e, e', e''] [] pos) fun g' r => RngV g' r a b c :=
  EV.call hn trivial (.three he he' he'' hst hst' hst'') (fun g' vs _ ⟨v, v', v'', e, ⟨t, ev⟩, ⟨t', ev'⟩, ⟨t'', ev''⟩⟩ s Q S hq => by
    subst e ev ev' ev''
    exact call_range_3 hc (hq _ _ _ _ (.push S.leg _) ⟨_, _, _, _, rfl, setk_self⟩) (.inl hp)) hst hpl

/-! enumerate, of a list -/
noncomputable def enumL (ds : List D) : List IK := (List.range ds.length).zipWith (fun i d => .tup [.int (i : Nat), d]) ds
theorem EI.enum {np pos : Pos} {e target : Expr} {elts : List Expr} {kk : Nat} {tp : Pos} {ds : List D} (hh : A.handled = .none) (htg : target = .Tuple elts kk tp) (hn : EP prog w A env g k m (.Name "enumerate" np) (isV (.type "enumerate"))) (he : EV prog w A env g k m e fun g' v => Rp prog w g' v (.lst ds))
    (hst : starEach [e] env = (false, eval e env) :: starEach [] env := by rfl) (hpl : ((backTo pos (starEach [e] env)).any (·.1) || (backToKw pos (keywordEach [] env)).any (·.1.isNone)) = false := by rfl) :
    EI prog w A env g k m (.Call (.Name "enumerate" np) [e] [] pos) target (enumL ds) := fun s Q S hq => by
  subst htg
  refine wpAny_Call_ofName (hn s _ S fun v h0 tk0 l0 r0 => ?_)
  have hv : v = .type "enumerate" := r0
  subst hv
  refine callWith_of (P := fun h => LeB g h) hpl (fun h x => Kp.looks (g := g) (fv := .type "enumerate") trivial h x) ?_
  rw [hst]
  have S0 := S.leH l0
  refine evalArgs_plain (spliced_cons (he ⟨h0, s.gens, s.drawn, tk0, s.os⟩ _ S0 fun g' v h' tk G r => spliced_nil ⟨fun b o e => G.leg b o (G.sub b o e), ?_⟩))
  cases r with
  | @lst a vs n _ e rl =>
    have hL : h'.IsList a vs.toArray := ⟨_, G.leg _ _ e, rfl, _, rfl⟩
    refine call_enumerate_list (s := ⟨h', s.gens, s.drawn, tk, s.os⟩) hL fun h2 hE hI hsz up => ?_
    refine wpAny_pyIter_enum (s := ⟨h2, s.gens, s.drawn, tk, s.os⟩) hE ?_
    have nw : ∀ b, h'.objs.size ≤ b → h'.get? b = .none := fun b hb => Heap.get?_none_of_le hb
    have og : ∀ b, h'.objs.size ≤ b → g' b = .none := fun b hb => by
      cases q : g' b with
      | none => rfl
      | some o => have := G.leg _ _ q; rw [nw b hb] at this; cases this
    have os : ∀ b, h'.objs.size ≤ b → s.heap.get? b = .none := fun b hb => by
      cases q : s.heap.get? b with
      | none => rfl
      | some o => have := G.leh _ _ (l0 _ _ q); rw [nw b hb] at this; cases this
    have hlt : a < h'.objs.size := Heap.lt_size (G.leg _ _ e)
    have mem : ∀ b, b ∈ [h'.objs.size + 1, h'.objs.size] → h'.objs.size ≤ b := fun b hb => by
      rcases List.mem_cons.mp hb with rfl | hb
      · exact Nat.le_succ _
      · rw [List.mem_singleton.mp hb]; exact Nat.le_refl _
    refine hq g' (h'.objs.size + 1) [h'.objs.size + 1, h'.objs.size, a] [h'.objs.size + 1, h'.objs.size] _ _ _ (((Gr.leH S.leg l0).trans G).trans (.leH G.leg up)) (.ofWalksT (WalksT.enumerate hh (h'.objs.size + 1) h'.objs.size a (Nat.ne_of_gt (Nat.lt_succ_self _)) (Nat.ne_of_lt (Nat.lt_succ_of_lt hlt)) (Nat.ne_of_lt hlt) vs.toArray) (by simp [enumL, rl.length]) ?_ ?_ ⟨⟨_, hE⟩, hI, hL.at fun o x => up _ _ x⟩ ?_ ?_ ?_)
    · rintro i it vals hi ⟨t, x, hx, rfl⟩
      have hx' : vs[i]? = some x := by simpa using hx
      obtain ⟨d, hd, rd⟩ := rl.getV hx'
      have hi' : it = .tup [.int (i : Nat), d] := by
        have hlt := (List.getElem?_eq_some_iff.mp hd).1
        rw [enumL, List.getElem?_zipWith, List.getElem?_range hlt, hd] at hi
        exact (Option.some.inj hi).symm
      exact ⟨_, hi', .cons (.int _ _) (.cons rd .nil)⟩
    · intro b hb; exact og b (mem b hb)
    · intro b hb; exact os b (mem b hb)
    · intro b hb
      rcases List.mem_cons.mp hb with rfl | hb
      · exact .inl (.head _)
      · rcases List.mem_cons.mp hb with rfl | hb
        · exact .inl (.tail _ (.head _))
        · rw [List.mem_singleton.mp hb]; exact .inr ⟨_, e⟩
    · rintro i h ⟨⟨old, h1⟩, ⟨o2, h2, _⟩, _⟩ b hb
      rcases List.mem_cons.mp hb with rfl | hb
      · exact ⟨_, h1⟩
      · rw [List.mem_singleton.mp hb]; exact ⟨_, h2⟩
end
end Mine
end
/-! M12 -/
section
open PySem PySem.W PyProof.Rows PySem.Calls
namespace Mine
theorem ExE.fresh {L : Addr} {g k : Bs} {m : Mp} {h : Heap} {o : Obj} (S : St L g k m h) (hf : o.isFreed = false) : ExE g k h g (setk k h.objs.size o) (h.push o) :=
  let x := Ext.fresh S hf
  ⟨x.st.leg, x.st.lek, x.st.dis, x.sub, fun b o e _ => Heap.get?_push_of_some _ e, x.newg, x.newk⟩
theorem St.none_size {L : Addr} {g k : Bs} {m : Mp} {h : Heap} (S : St L g k m h) : g h.objs.size = none ∧ k h.objs.size = none := by
  have nw : h.get? h.objs.size = none := Heap.get?_none_of_le (Nat.le_refl _)
  constructor
  · cases q : g h.objs.size with
    | none => rfl
    | some o => have := S.leg _ _ q; rw [nw] at this; cases this
  · cases q : k h.objs.size with
    | none => rfl
    | some o => have := S.lek _ _ q; rw [nw] at this; cases this
section
variable {prog : Program} {w : World} {A : Around} {env : Env} {g k : Bs} {m : Mp}
theorem EM.nilList {pos : Pos} : EM prog w A env g k m (.List [] pos) fun g' k' v => g' = g ∧ ∃ a, g a = none ∧ k a = none ∧ v = .ref a ∧ k' = setk k a (lstO [] 0) := fun s Q S hq =>
  wpAny_List_spliced (spliced_nil ⟨by decide, hq g _ _ _ s.toks (.fresh S rfl) ⟨rfl, _, S.none_size.1, S.none_size.2, rfl, rfl⟩⟩)
theorem EM.nilDict {pos : Pos} : EM prog w A env g k m (.Dict [] [] pos) fun g' k' v => g' = g ∧ ∃ a, g a = none ∧ k a = none ∧ v = .ref a ∧ k' = setk k a { cls := .type "dict", data := .dict #[] } := fun s Q S hq =>
  wpAny_Dict_empty (hq g _ _ _ s.toks (.fresh S rfl) ⟨rfl, _, S.none_size.1, S.none_size.2, rfl, rfl⟩)
theorem EV.list {es : List Expr} {pos : Pos} {ds : List D} {R : Bs → List Value → Prop} (he : EL prog w A env g k m es R) (hr : ∀ g' vs, R g' vs → RpL prog w g' vs ds) (hsz : ds.length ≤ sizeLine := by (simp only [List.length_cons, List.length_nil]; decide)) : EV prog w A env g k m (.List es pos) fun g' v => Rp prog w g' v (.lst ds) := fun s Q S hq =>
  wpAny_List_spliced (he pos s _ S fun g' vs h' tk G r => ⟨by rw [(hr _ _ r).length]; exact hsz, hq _ _ _ _ (G.trans (.push G.leg (lstO vs 0))) (.lst setk_self ((hr _ _ r).mono (Gr.push G.leg (lstO vs 0)).sub))⟩)
theorem EV.tup {es : List Expr} {kk : Nat} {pos : Pos} {ds : List D} {R : Bs → List Value → Prop} (he : EL prog w A env g k m es R) (hr : ∀ g' vs, R g' vs → RpL prog w g' vs ds) (hsz : ds.length ≤ sizeLine := by (simp only [List.length_cons, List.length_nil]; decide)) : EV prog w A env g k m (.Tuple es kk pos) fun g' v => Rp prog w g' v (.tup ds) := fun s Q S hq =>
  wpAny_Tuple_spliced (he pos s _ S fun g' vs h' tk G r => ⟨by rw [(hr _ _ r).length]; exact hsz, hq _ _ _ _ (G.trans (.push G.leg (tupO vs))) (.tup setk_self ((hr _ _ r).mono (Gr.push G.leg (tupO vs)).sub))⟩)

/-- two names at once, from a pair that is written out: the last is bound first -/
theorem E1.pairS {x y : Str} {px py tp vp pos : Pos} {n n' : Nat} {e₁ e₂ : Expr} {R₁ : Bs → Bs → Value → Prop} {R₂ : Value → Prop} (hh : A.handled = .none) (h₁ : EM prog w A env g k m e₁ R₁) (h₂ : ∀ g' k' v, SubB g g' → R₁ g' k' v → EP prog w A env g' k' m e₂ R₂)
    (hx : env.kindOf x = some .local := by rfl) (hy : env.kindOf y = some .local := by rfl) (hp : (env.scope.kind == .class || (env.scope.kind == .module && env.locals != env.globals)) = false := by rfl)
    (hst : starEach [e₁, e₂] env = (false, eval e₁ env) :: starEach [e₂] env := by rfl) (hst' : starEach [e₂] env = (false, eval e₂ env) :: starEach [] env := by rfl)
    (hs : swapsWithSole [.Tuple [.Name x px, .Name y py] n tp] (.Tuple [e₁, e₂] n' vp) pos.line env = pure false := by rfl)
    (hw : swappedStores [.Tuple [.Name x px, .Name y py] n tp] (.Tuple [e₁, e₂] n' vp) env = pure (some [x, y]) := by rfl) :
    E1 prog w A env g k m (.Assign [.Tuple [.Name x px, .Name y py] n tp] (.Tuple [e₁, e₂] n' vp) pos) (Nx fun g' k' m' => ∃ v₁ v₂, R₁ g' k' v₁ ∧ R₂ v₂ ∧ m' = upd (upd m y v₂) x v₁) := fun s Q S hq => by
  refine Assign_Tuple_swapped (names := [x, y]) (wpAny_Tuple_spliced ?_) hs hw
  rw [hst, hst']
  refine spliced_cons (h₁ s _ S fun g₁ k₁ v₁ s₁ tk₁ X₁ r₁ => spliced_cons (h₂ g₁ k₁ v₁ X₁.sub r₁ ⟨s₁, s.gens, s.drawn, tk₁, s.os⟩ _ (X₁.st S) fun v₂ s₂ tk₂ l₂ r₂ => spliced_nil ⟨(by show 2 ≤ sizeLine; decide), ?_⟩))
  have S₁ := X₁.st S
  have S₂ := S₁.leH l₂
  refine wpAny_unpackItems_tuple (items := #[v₁, v₂]) (s := ⟨s₂.push { cls := .type "tuple", data := .seq [v₁, v₂].toArray }, s.gens, s.drawn, tk₂, s.os⟩) hh ⟨_, Heap.get?_push_size _ rfl, rfl, 0, rfl⟩ fun h₃ hb => ?_
  have l₃ : LeH s₁ h₃ := fun b o e => by
    have e2 := Heap.get?_push_of_some { cls := .type "tuple", data := .seq [v₁, v₂].toArray } (l₂ b o e)
    exact hb b o (Nat.ne_of_lt (Heap.lt_size e2)) e2
  have S₃ := S₁.leH l₃
  have X₃ : Ext env.locals g k s.heap g₁ k₁ m h₃ := (X₁.ext S).trans (.grow S₁ (.leH S₁.leg l₃)) (ns_some S.ns) S.offk S.offg
  show wpAny _ _ (assignInOrder [fun v => bindName env y v, fun v => bindName env x v] [v₂, v₁]) _ _ _
  refine wpAny_assignInOrder_more (wpAny_bindName (wpAny_storeName_local hy S₃.ns (fun h₄ hn₄ hb₄ => ?_) hp))
  have X₄ := X₃.trans (.store S₃ hn₄ hb₄) (ns_some S.ns) S.offk S.offg
  refine wpAny_assignInOrder_more (wpAny_bindName (wpAny_storeName_local hx X₄.st.ns (fun h₅ hn₅ hb₅ => ?_) hp))
  exact wpAny_assignInOrder_none (hq _ g₁ k₁ _ h₅ _ (X₄.trans (.store X₄.st hn₅ hb₅) (ns_some S.ns) S.offk S.offg) ⟨rfl, v₁, v₂, r₁, r₂, rfl⟩)

/-- x.append(e), of a list that may turn -/
theorem E1.append {x : Str} {np apos cpos pos : Pos} {e : Expr} {Y : Addr} {vs : List Value} {n : Nat} {R : Bs → Value → Prop} (hx : EP prog w A env g k m (.Name x np) (isV (.ref Y))) (hY : k Y = some (lstO vs n)) (hsz : vs.length ≤ sizeLine) (he : EV prog w A env g k m e R)
    (hi : interactive env = false := by rfl) (hs : swapsWith (.Call (.Attribute (.Name x np) "append" apos) [e] [] cpos) Option.none pos.line env = pure false := by rfl)
    (hb : attributeBase (.Name x np) "append" env (eval (.Name x np) env) = eval (.Name x np) env := by rfl)
    (hfew : (((backTo cpos (starEach [e] env)).all (fun x => !x.1) && (backToKw cpos (keywordEach [] env)).all (fun x => x.1.isSome)) && decide (([e] : List Expr).length + ([] : List Keyword).length + (if ([] : List Keyword).isEmpty = true then 0 else 1) < 30)) = true := by rfl)
    (hl : (apos.endLine == cpos.line) = true := by rfl) (hst : starEach [e] env = (false, eval e env) :: starEach [] env := by rfl) (hpl : (backTo cpos (starEach [e] env)).any (·.1) = false := by rfl) :
    E1 prog w A env g k m (.Expr (.Call (.Attribute (.Name x np) "append" apos) [e] [] cpos) pos) (Nx fun g' k' m' => m' = m ∧ ∃ v, R g' v ∧ k' = setk k Y (lstO (vs ++ [v]) (n + 1))) :=
  E1.expr (fun s Q S hq => by
    refine wpAny_Call_method_late hb hfew hl rfl (hx s _ S fun ov h' tk l r => ?_)
    have r' : ov = .ref Y := r
    subst r'
    have S' := S.leH l
    refine ⟨"list", "list.append", F.plainAttrs_list, slot_list_append, F.type_list_append, ⟨_, S'.lek _ _ hY, rfl⟩, (fun a ea => by cases ea; exact ⟨_, S'.lek _ _ hY, rfl⟩), callWith_builtin hpl ?_⟩
    rw [hst]
    refine evalArgs_plain (spliced_cons (he ⟨h', s.gens, s.drawn, tk, s.os⟩ _ S' fun g' v h'' tk'' G r => spliced_nil ?_))
    have S'' := S'.grow G
    refine append_at (its := vs.toArray) (n := n) (S''.lek _ _ hY) (fun h2 hsb ho => ?_) (by simpa using hsz)
    have ho' : h2.get? Y = some (lstO (vs ++ [v]) (n + 1)) := by rw [ho]; simp [lstO]
    exact hq _ g' _ m h2 tk'' (((Ext.grow S (.leH S.leg l)).trans (.grow S' G) (ns_some S.ns) S.offk S.offg).trans (.turn S'' hY hsb ho') (ns_some S.ns) S.offk S.offg) ⟨rfl, v, r, rfl⟩) hi hs
end
end Mine
end
/-! M13 -/
section
open PySem PySem.W PyProof.Rows PySem.Calls
namespace Mine
section
variable {prog : Program} {w : World} {A : Around} {env : Env} {g k : Bs} {m : Mp}
theorem EX.for {target iter : Expr} {body rest : List Stmt} {pos : Pos} {its : List IK} {R : Bs → Bs → Mp → Flow → Prop} (J : Nat → Bs → Bs → Mp → Prop)
    (hit : EI prog w A env g k m iter target its) (h0 : ∀ g', SubB g g' → J 0 g' k m)
    (turn : ∀ (i : Nat) (it : IK) g' k' m', SubB g g' → its[i]? = some it → J i g' k' m' → EA prog w A env g' k' m' target it fun g2 k2 m2 => EX prog w A env g2 k2 m2 body fun g3 k3 m3 f => f = .next ∧ J (i + 1) g3 k3 m3)
    (hn : ∀ g' k' m', SubB g g' → J its.length g' k' m' → EX prog w A env g' k' m' rest R)
    (hs : ∀ x, foldedSetIterable iter env x = pure x := by intro _; rfl) : EX prog w A env g k m (.For target iter body [] pos :: rest) R :=
  .cons (E1.for J (fun _ _ _ _ => False) hit h0 (fun i d g' k' m' s hd hJ => (turn i d g' k' m' s hd hJ).mono fun g2 k2 m2 _ e => e.mono fun _ _ _ _ _ r => .inl r) hs)
    (fun g' k' m' s r => by
      rcases r with ⟨_, hJ⟩ | ⟨_, _, e⟩
      · exact hn g' k' m' s hJ
      · exact e.elim)
    (fun g' k' m' f n s r => by
      rcases r with ⟨e, _⟩ | ⟨_, _, e⟩
      · exact absurd e n
      · exact e.elim)
theorem EX.ret {e : Expr} {pos : Pos} {rest : List Stmt} {R₁ : Bs → Value → Prop} {R : Bs → Bs → Mp → Flow → Prop} (he : EV prog w A env g k m e R₁) (hr : ∀ g' v, SubB g g' → (∀ b o, g' b = some o → k b = none) → R₁ g' v → R g' k m (.ret v)) : EX prog w A env g k m (.Return (some e) pos :: rest) R := fun s Q S hq =>
  wpAny_execs_cons (wpAny_Return_some (he s _ S fun g' v h' tk G r => hq _ g' k m h' tk (.grow S G) (hr g' v G.sub (S.grow G).dis r)))
/-- a list that was made here is handed home -/
theorem Rp.home {g k : Bs} {a : Addr} {vs : List Value} {n : Nat} {ds : List D} (e : k a = some (lstO vs n)) (r : RpL prog w g vs ds) (dis : ∀ b o, g b = some o → k b = Option.none) : Rp prog w (joinB g k) (.ref a) (.lst ds) := .lst (joinB_r dis _ _ e) (r.mono joinB_l)
theorem rng_get {a c : Int} {n i : Nat} {it : IK} (h : ((rngL a c n).map IK.one)[i]? = some it) : i < n ∧ it = .one (.int (a + (i : Nat) * c)) := by
  rw [List.getElem?_map, rngL, List.getElem?_map] at h
  obtain ⟨d, hd, rfl⟩ := Option.map_eq_some_iff.mp h
  obtain ⟨j, hj, rfl⟩ := Option.map_eq_some_iff.mp hd
  obtain ⟨hlt, e⟩ := List.getElem?_eq_some_iff.mp hj
  rw [List.getElem_range] at e
  subst e
  exact ⟨by simpa using hlt, rfl⟩
theorem rng_len {a c : Int} {n : Nat} : ((rngL a c n).map IK.one).length = n := by simp [rngL]
theorem Rp.isI {g : Bs} {v : Value} {i : Int} (r : Rp prog w g v (.int i)) : isI i v := by cases r with | int i t => exact ⟨t, rfl⟩
theorem Rp.isS {g : Bs} {v : Value} {x : Str} (r : Rp prog w g v (.str x)) : isS x v := by cases r with | str i t => exact ⟨t, rfl⟩
theorem Rp.isY {g : Bs} {v : Value} {x : Array UInt8} (r : Rp prog w g v (.bytes x)) : isY x v := by cases r with | bytes i t => exact ⟨t, rfl⟩
theorem rpI {g : Bs} {v : Value} {i : Int} (h : isI i v) : Rp prog w g v (.int i) := by obtain ⟨t, rfl⟩ := h; exact .int i t
theorem rpS {g : Bs} {v : Value} {x : Str} (h : isS x v) : Rp prog w g v (.str x) := by obtain ⟨t, rfl⟩ := h; exact .str x t
theorem rpY {g : Bs} {v : Value} {x : Array UInt8} (h : isY x v) : Rp prog w g v (.bytes x) := by obtain ⟨t, rfl⟩ := h; exact .bytes x t
theorem EV.I {e : Expr} {i : Int} (h : EP prog w A env g k m e (isI i)) : EV prog w A env g k m e fun g' v => Rp prog w g' v (.int i) := fun s Q S hq => h s Q S fun v h' tk l r => hq g v h' tk (.leH S.leg l) (rpI r)
theorem EV.S {e : Expr} {i : Str} (h : EP prog w A env g k m e (isS i)) : EV prog w A env g k m e fun g' v => Rp prog w g' v (.str i) := fun s Q S hq => h s Q S fun v h' tk l r => hq g v h' tk (.leH S.leg l) (rpS r)
theorem EV.Y {e : Expr} {i : Array UInt8} (h : EP prog w A env g k m e (isY i)) : EV prog w A env g k m e fun g' v => Rp prog w g' v (.bytes i) := fun s Q S hq => h s Q S fun v h' tk l r => hq g v h' tk (.leH S.leg l) (rpY r)
theorem EV.R {e : Expr} {d : D} (h : EP prog w A env g k m e (fun v => Rp prog w g v d)) : EV prog w A env g k m e fun g' v => Rp prog w g' v d := fun s Q S hq => h s Q S fun v h' tk l r => hq g v h' tk (.leH S.leg l) r
theorem EL.rnil : EL prog w A env g k m [] fun g' vs => RpL prog w g' vs [] := .nil .nil
theorem EL.rcons {e : Expr} {es : List Expr} {d : D} {ds : List D} (he : EV prog w A env g k m e fun g' v => Rp prog w g' v d) (hes : ∀ g', SubB g g' → EL prog w A env g' k m es fun g'' vs => RpL prog w g'' vs ds)
    (hst : starEach (e :: es) env = (false, eval e env) :: starEach es env := by rfl) : EL prog w A env g k m (e :: es) fun g' vs => RpL prog w g' vs (d :: ds) :=
  .cons he (fun g' v s r => (hes g' s).mono fun g'' vs s2 r2 => .cons (r.mono s2) r2) hst
theorem EL.rone {e : Expr} {d : D} (he : EV prog w A env g k m e fun g' v => Rp prog w g' v d) (hst : starEach [e] env = (false, eval e env) :: starEach [] env := by rfl) : EL prog w A env g k m [e] fun g' vs => RpL prog w g' vs [d] := .rcons he (fun _ _ => .rnil) hst
theorem EL.rtwo {e e' : Expr} {d d' : D} (he : EV prog w A env g k m e fun g' v => Rp prog w g' v d) (he' : ∀ g', SubB g g' → EV prog w A env g' k m e' fun g' v => Rp prog w g' v d') (hst : starEach [e, e'] env = (false, eval e env) :: starEach [e'] env := by rfl) (hst' : starEach [e'] env = (false, eval e' env) :: starEach [] env := by rfl) :
    EL prog w A env g k m [e, e'] fun g' vs => RpL prog w g' vs [d, d'] := .rcons he (fun g' s => .rone (he' g' s) hst') hst
theorem EA.names2 {x y : Str} {px py tp : Pos} {n : Nat} {d₁ d₂ : D} (hh : A.handled = Option.none) (hx : env.kindOf x = some .local := by rfl) (hy : env.kindOf y = some .local := by rfl) (hp : (env.scope.kind == .class || (env.scope.kind == .module && env.locals != env.globals)) = false := by rfl)
    (ht : (assignEach [.Name x px, .Name y py] env) = [(false, fun v => assign (.Name x px) env v), (false, fun v => assign (.Name y py) env v)] := by rfl) :
    EA prog w A env g k m (.Tuple [.Name x px, .Name y py] n tp) (.tup [d₁, d₂]) fun g' k' m' => g' = g ∧ k' = k ∧ ∃ v₁ v₂, Rp prog w g v₁ d₁ ∧ Rp prog w g v₂ d₂ ∧ m' = upd (upd m x v₁) y v₂ :=
  EA.two hh (EA.name hx hp) (R := fun g' k' m' => g' = g ∧ k' = k ∧ ∃ v₁ v₂, Rp prog w g v₁ d₁ ∧ Rp prog w g v₂ d₂ ∧ m' = upd (upd m x v₁) y v₂) (by
    rintro g' k' m' s ⟨rfl, rfl, v, r, rfl⟩
    refine EA.mono (EA.name hy hp) ?_
    rintro g'' k'' m'' s' ⟨rfl, rfl, v', r', rfl⟩
    exact ⟨rfl, rfl, v, v', r, r', rfl⟩) ht
/-- the range of one -/
theorem EI.range1 {np pos : Pos} {e target : Expr} {n : Nat} (hh : A.handled = .none) (B : Base w g) (hsm : n < 2 ^ 60) (hn : EP prog w A env g k m (.Name "range" np) (isV (.type "range"))) (he : EP prog w A env g k m e (isI (n : Int))) (hst : starEach [e] env = (false, eval e env) :: starEach [] env := by rfl)
    (hpl : ((backTo pos (starEach [e] env)).any (·.1) || (backToKw pos (keywordEach [] env)).any (·.1.isNone)) = false := by rfl) (ht : ∀ I v, letOwnedTupleGo target (.ref I) v = pure () := by intro _ _; rfl) :
    EI prog w A env g k m (.Call (.Name "range" np) [e] [] pos) target ((rngL 0 1 n).map .one) :=
  .rng hh (EV.range1 B hn he hst hpl) (small_one (by omega) (by omega) (by omega) (by omega)) (by rw [rangeSize_one]; split <;> omega) ht
end
end Mine
end
/-! M14 -/
section
open PySem PySem.W PyProof.Rows PySem.Calls
namespace Mine
section
variable {prog : Program} {w : World} {A : Around} {env : Env} {g k : Bs} {m : Mp}
/-- a built-in function of one argument that lays nothing -/
theorem EP.fn1 {f : Str} {np pos : Pos} {e : Expr} {fv : Value} {R R' : Value → Prop} (hf : EP prog w A env g k m (.Name f np) (isV fv)) (hk : Kp g fv) (he : EP prog w A env g k m e R)
    (hc : ∀ v (s : Shared) (Q : Value → Shared → Prop), R v → LeB g s.heap → LeB k s.heap → (∀ r tk, R' r → Q r { s with toks := tk }) → wpAny (model prog w) A (PySem.call fv [v] []) Q nE s)
    (hst : starEach [e] env = (false, eval e env) :: starEach [] env := by rfl) (hpl : ((backTo pos (starEach [e] env)).any (·.1) || (backToKw pos (keywordEach [] env)).any (·.1.isNone)) = false := by rfl) :
    EP prog w A env g k m (.Call (.Name f np) [e] [] pos) R' :=
  EP.call hf hk (.one he hst) (fun g' vs hs ⟨v, ev, r⟩ s Q S hq => by subst ev; exact hc v s Q r (fun b o e => S.leg b o (hs b o e)) S.lek fun r tk hr => hq g' r s.heap tk (.refl S.leg) hr) hst hpl
theorem EP.abs {np pos : Pos} {e : Expr} {a : Int} (hf : EP prog w A env g k m (.Name "abs" np) (isV (.builtin "abs"))) (he : EP prog w A env g k m e (isI a)) (hst : starEach [e] env = (false, eval e env) :: starEach [] env := by rfl) (hpl : ((backTo pos (starEach [e] env)).any (·.1) || (backToKw pos (keywordEach [] env)).any (·.1.isNone)) = false := by rfl) :
    EP prog w A env g k m (.Call (.Name "abs" np) [e] [] pos) (isI (if a < 0 then -a else a)) := .fn1 hf trivial he (fun v s Q ⟨t, e⟩ _ _ hq => by subst e; exact call_abs_int fun u tk => hq _ _ ⟨_, rfl⟩) hst hpl
theorem EP.toInt {np pos : Pos} {e : Expr} {a : Int} (hf : EP prog w A env g k m (.Name "int" np) (isV (.type "int"))) (he : EP prog w A env g k m e (isI a)) (hst : starEach [e] env = (false, eval e env) :: starEach [] env := by rfl) (hpl : ((backTo pos (starEach [e] env)).any (·.1) || (backToKw pos (keywordEach [] env)).any (·.1.isNone)) = false := by rfl) :
    EP prog w A env g k m (.Call (.Name "int" np) [e] [] pos) (isI a) := .fn1 hf trivial he (fun v s Q ⟨t, e⟩ _ _ hq => by subst e; exact call_int_int (hq _ s.toks ⟨_, rfl⟩)) hst hpl
theorem EP.intText {np pos : Pos} {e : Expr} {x : Str} {n : Int} (hx : PySem.intText? x = some n) (hl : x.length ≤ 640) (hf : EP prog w A env g k m (.Name "int" np) (isV (.type "int"))) (he : EP prog w A env g k m e (isS x)) (hst : starEach [e] env = (false, eval e env) :: starEach [] env := by rfl) (hpl : ((backTo pos (starEach [e] env)).any (·.1) || (backToKw pos (keywordEach [] env)).any (·.1.isNone)) = false := by rfl) :
    EP prog w A env g k m (.Call (.Name "int" np) [e] [] pos) (isI n) := .fn1 hf trivial he (fun v s Q ⟨t, e⟩ _ _ hq => by subst e; exact KIN.call_text hx hl (hq _ _ ⟨_, rfl⟩)) hst hpl
theorem EP.lenL {np pos : Pos} {e : Expr} {ds : List D} (hf : EP prog w A env g k m (.Name "len" np) (isV (.builtin "len"))) (he : EP prog w A env g k m e (fun v => Rp prog w g v (.lst ds))) (hsz : ds.length < 2 ^ 62) (hst : starEach [e] env = (false, eval e env) :: starEach [] env := by rfl) (hpl : ((backTo pos (starEach [e] env)).any (·.1) || (backToKw pos (keywordEach [] env)).any (·.1.isNone)) = false := by rfl) :
    EP prog w A env g k m (.Call (.Name "len" np) [e] [] pos) (isI (ds.length : Int)) := .fn1 hf trivial he (fun v s Q r lg _ hq => by
      cases r with
      | @lst a vs n _ e rl =>
        have hl := rl.length
        refine call_len_list (items := vs.toArray) ⟨_, lg _ _ e, rfl, _, rfl⟩ (by rw [List.size_toArray, hl]; omega) (hq _ _ ⟨_, by rw [List.size_toArray, hl]⟩)) hst hpl
theorem EP.lenY {np pos : Pos} {e : Expr} {b : Array UInt8} (hf : EP prog w A env g k m (.Name "len" np) (isV (.builtin "len"))) (he : EP prog w A env g k m e (isY b)) (hsz : b.size ≤ 1099511627776) (hst : starEach [e] env = (false, eval e env) :: starEach [] env := by rfl) (hpl : ((backTo pos (starEach [e] env)).any (·.1) || (backToKw pos (keywordEach [] env)).any (·.1.isNone)) = false := by rfl) :
    EP prog w A env g k m (.Call (.Name "len" np) [e] [] pos) (isI (b.size : Int)) := .fn1 hf trivial he (fun v s Q ⟨t, e⟩ _ _ hq => by subst e; exact len_bytes hsz (hq _ _ ⟨_, rfl⟩)) hst hpl
theorem EP.lenS {np pos : Pos} {e : Expr} {b : Str} (hf : EP prog w A env g k m (.Name "len" np) (isV (.builtin "len"))) (he : EP prog w A env g k m e (isS b)) (hsz : b.length ≤ 1099511627776) (hst : starEach [e] env = (false, eval e env) :: starEach [] env := by rfl) (hpl : ((backTo pos (starEach [e] env)).any (·.1) || (backToKw pos (keywordEach [] env)).any (·.1.isNone)) = false := by rfl) :
    EP prog w A env g k m (.Call (.Name "len" np) [e] [] pos) (isI (b.length : Int)) := .fn1 hf trivial he (fun v s Q ⟨t, e⟩ _ _ hq => by subst e; exact P.len_str (by omega) (hq _ _ ⟨_, rfl⟩)) hst hpl
theorem EV.divmod {np pos : Pos} {e e' : Expr} {a b : Int} (h0 : b ≠ 0) (hp : Builtin.divisionGoesByPylong a b = false) (hf : EP prog w A env g k m (.Name "divmod" np) (isV (.builtin "divmod"))) (he : EP prog w A env g k m e (isI a)) (he' : EP prog w A env g k m e' (isI b)) (hst : starEach [e, e'] env = (false, eval e env) :: starEach [e'] env := by rfl) (hst' : starEach [e'] env = (false, eval e' env) :: starEach [] env := by rfl)
    (hpl : ((backTo pos (starEach [e, e'] env)).any (·.1) || (backToKw pos (keywordEach [] env)).any (·.1.isNone)) = false := by rfl) :
    EV prog w A env g k m (.Call (.Name "divmod" np) [e, e'] [] pos) fun g' v => Rp prog w g' v (.tup [.int (a.fdiv b), .int (a.fmod b)]) :=
  EV.call hf trivial (.two he he' hst hst') (fun g' vs _ ⟨v, v', e, ⟨t, ev⟩, ⟨t', ev'⟩⟩ s Q S hq => by
    subst e ev ev'
    exact divmod_int h0 (hq _ _ _ _ (.push S.leg (tupO [.int (a.fdiv b) s.toks, .int (a.fmod b) (s.toks + 1)])) (.tup setk_self (.cons (.int _ _) (.cons (.int _ _) .nil)))) (.inl hp)) hst hpl

/-! pieces -/
noncomputable def PT (prog : Program) (w : World) (A : Around) (env : Env) (g k : Bs) (m : Mp) (e : Option Expr) (i : Option Int) : Prop :=
  ∀ (s : Shared) (Q : Value → Shared → Prop), St env.locals g k m s.heap → (∀ v h' tk, LeH s.heap h' → IsPart v i → Q v { s with heap := h', toks := tk }) → wpAny (model prog w) A (evalPart e env) Q nE s
theorem PT.no : PT prog w A env g k m Option.none Option.none := fun s Q S hq => wpAny_pure (hq _ s.heap s.toks .refl .none)
theorem PT.at {e : Expr} {i : Int} (he : EP prog w A env g k m e (isI i)) : PT prog w A env g k m (some e) (some i) := fun s Q S hq => he s Q S fun v h' tk l ⟨t, e⟩ => hq v h' tk l (by subst e; exact .int _ _)
theorem EP.piece {v : Expr} {lo hi : Option Expr} {p pos : Pos} {Rv R : Value → Prop} {l u : Option Int} (hv : EP prog w A env g k m v Rv) (hl : PT prog w A env g k m lo l) (hu : PT prog w A env g k m hi u)
    (hi' : ∀ o vl vu (s : Shared) (Q : Value → Shared → Prop), Rv o → IsPart vl l → IsPart vu u → (∀ r h' tk, LeH s.heap h' → R r → Q r { s with heap := h', toks := tk }) → ItemOn (model prog w) A nE o (.ref s.heap.objs.size) Q { s with heap := s.heap.push { cls := .type "slice", data := .fields #[vl, vu, .none] } })
    (ht : ∀ o r, letTemporaryGo v o r = pure () := by intro _ _; rfl) : EP prog w A env g k m (.Subscript v (.Slice lo hi Option.none p) pos) R := fun s Q S hq =>
  Subscript_Slice (hv s _ S fun o h₁ tk₁ l₁ ro => wpAny_Slice (hl ⟨h₁, s.gens, s.drawn, tk₁, s.os⟩ _ (S.leH l₁) fun vl h₂ tk₂ l₂ rl => hu ⟨h₂, s.gens, s.drawn, tk₂, s.os⟩ _ ((S.leH l₁).leH l₂) fun vu h₃ tk₃ l₃ ru => wpAny_pure
    (hi' o vl vu ⟨h₃, s.gens, s.drawn, tk₃, s.os⟩ Q ro rl ru fun r h' tk l₄ hr => hq r h' tk (((l₁.trans l₂).trans l₃).trans l₄) hr))) ht
theorem EP.pieceY {v : Expr} {lo hi : Option Expr} {p pos : Pos} {b : Array UInt8} {l u : Option Int} (hv : EP prog w A env g k m v (isY b)) (hl : PT prog w A env g k m lo l) (hu : PT prog w A env g k m hi u) (hz : b.size ≤ sizeLine)
    (ht : ∀ o r, letTemporaryGo v o r = pure () := by intro _ _; rfl) : EP prog w A env g k m (.Subscript v (.Slice lo hi Option.none p) pos) (isY (KBy.picked b l u)) :=
  .piece hv hl hu (fun o vl vu s Q ⟨t, e⟩ rl ru hq => by
    subst e
    exact ⟨"bytes", _, FB.slot_bytes_getitem.lookup, typeIs_bytes _ _ _, getItem_meets (typeIs_bytes _ _ _) (by decide) FB.slot_bytes_getitem FB.entry_bytes_getitem (FB.args_bytes_getitem_2 _ _) (KBc.meets_slice2 b t _ rl ru)
      ⟨Heap.IsSliceOf.new _ _ _ _, Nat.le_trans (KBc.size_picked_le b l u) hz, fun t' k => hq _ _ _ (.push _) ⟨_, rfl⟩⟩⟩) ht
theorem EP.pieceS {v : Expr} {lo hi : Option Expr} {p pos : Pos} {b : Str} {l u : Option Int} (hv : EP prog w A env g k m v (isS b)) (hl : PT prog w A env g k m lo l) (hu : PT prog w A env g k m hi u) (hz : b.length ≤ sizeLine)
    (ht : ∀ o r, letTemporaryGo v o r = pure () := by intro _ _; rfl) : EP prog w A env g k m (.Subscript v (.Slice lo hi Option.none p) pos) (isS (Txt.slice b l u)) :=
  .piece hv hl hu (fun o vl vu s Q ⟨t, e⟩ rl ru hq => by
    subst e
    have hk : KeptH (fun h => LeH s.heap h) := fun h ob l => l.trans (.push ob)
    cases rl <;> cases ru
    · exact SBH.sliceItem_nn hk .refl (fun h' t' k p => hq _ _ _ p ⟨_, rfl⟩) hz
    · exact SBH.sliceItem_ns hk .refl (fun h' t' k p => hq _ _ _ p ⟨_, rfl⟩) hz
    · exact SBH.sliceItem_sn hk .refl (fun h' t' k p => hq _ _ _ p ⟨_, rfl⟩) hz
    · exact SBH.sliceItem_ss hk .refl (fun h' t' k p => hq _ _ _ p ⟨_, rfl⟩) hz) ht

/-! bytes, strs -/
theorem EP.catY {l r : Expr} {pos : Pos} {x y : Array UInt8} (hl : EP prog w A env g k m l (isY x)) (hr : EP prog w A env g k m r (isY y)) (hf : x.size + y.size ≤ 16777216) : EP prog w A env g k m (.BinOp l .Add r pos) (isY (x ++ y)) :=
  .bin hl hr fun _ _ ⟨_, ha⟩ ⟨_, hb⟩ s _ hq => by subst ha hb; exact KBy.add_bytes hf (fun _ _ => hq _ _ ⟨_, rfl⟩)
theorem EP.mulY {l r : Expr} {pos : Pos} {b : List UInt8} {n : Int} (hl : EP prog w A env g k m l (isY b.toArray)) (hr : EP prog w A env g k m r (isI n)) (hb : b ≠ []) (h0 : -1048576 ≤ n) (h1 : n ≤ 1048576) (hs : b.length ≤ 16) : EP prog w A env g k m (.BinOp l .Mult r pos) (isY (List.replicate n.toNat b).flatten.toArray) :=
  .bin hl hr fun _ _ ⟨_, ha⟩ ⟨_, hb'⟩ s _ hq => by subst ha hb'; exact bytes_mul_any hb h0 h1 hs (fun _ _ => hq _ _ ⟨_, rfl⟩)
theorem EP.itemY {v i : Expr} {pos : Pos} {b : List UInt8} {n : Nat} {c : UInt8} (hv : EP prog w A env g k m v (isY b.toArray)) (hi : EP prog w A env g k m i (isI (n : Int))) (hc : b[n]? = some c) (hz : b.length ≤ 1099511627776)
    (hs : ∀ o x, subscripted i false o x = operate [o, x] (getItem o x) := by intro _ _; with_unfolding_all rfl) (ht : ∀ o r, letTemporaryGo v o r = pure () := by intro _ _; with_unfolding_all rfl) : EP prog w A env g k m (.Subscript v i pos) (isI c.toNat) :=
  .sub' hv hi fun o x s Q ⟨_, ro⟩ ⟨_, rx⟩ S hq => by
    subst ro rx
    obtain ⟨hlt, hc'⟩ := List.getElem?_eq_some_iff.mp hc
    have e : b.getD (n : Int).toNat 0 = c := by rw [Int.toNat_natCast, List.getD_eq_getElem?_getD, hc]; rfl
    exact tail_of_ItemOn ⟨"bytes", _, FB.slot_bytes_getitem.lookup, typeIs_bytes _ _ _, getItem_bytes hz (by omega) (by omega) (by rw [e]; exact hq _ _ ⟨_, rfl⟩)⟩ (hs _ _) (ht _)
theorem EP.itemS {v i : Expr} {pos : Pos} {x : Str} {n : Int} (hv : EP prog w A env g k m v (isS x)) (hi : EP prog w A env g k m i (isI n)) (h0 : 0 ≤ n) (h1 : n < x.length) (hz : n < 2 ^ 62)
    (hs : ∀ o x, subscripted i false o x = operate [o, x] (getItem o x) := by intro _ _; with_unfolding_all rfl) (ht : ∀ y t r, letTemporaryGo v (.str y t) r = pure () := by intro _ _ _; with_unfolding_all rfl) : EP prog w A env g k m (.Subscript v i pos) (isS (Txt.item x n)) :=
  .sub' hv hi fun o y s Q ⟨_, ro⟩ ⟨_, rx⟩ S hq => by
    subst ro rx
    exact item_str (by unfold fitsSsize; simp; omega) (by omega) h1 (fun _ => hq _ _ ⟨_, rfl⟩) (hs _ _) (ht _ _)
theorem CO.gtS {a b : Value} {x y : Str} : isS x a → isS y b → CO prog w A .Gt a b (decide (y.cps.toList < x.cps.toList)) := by rintro ⟨_, rfl⟩ ⟨_, rfl⟩ s Q h; exact P.gt_str (h s.toks)
end
end Mine
end
/-! M15 -/
section
open PySem PySem.W PyProof.Rows PySem.Calls
namespace Mine
section
variable {prog : Program} {w : World} {A : Around} {env : Env} {g k : Bs} {m : Mp}
theorem E1.unpack {elts : List Expr} {n : Nat} {tp pos : Pos} {e : Expr} {ds : List D} {R : Bs → Bs → Mp → Prop} (he : EV prog w A env g k m e fun g' v => Rp prog w g' v (.tup ds)) (ha : ∀ g', SubB g g' → EA prog w A env g' k m (.Tuple elts n tp) (.tup ds) R)
    (hs : swapsWithSole [.Tuple elts n tp] e pos.line env = pure false := by rfl) (hw : swappedStores [.Tuple elts n tp] e env = pure Option.none := by rfl) :
    E1 prog w A env g k m (.Assign [.Tuple elts n tp] e pos) (Nx R) := fun s Q S hq =>
  Assign_Tuple (he s _ S fun g' v h' tk G r => by
    have S' := S.grow G
    refine ha g' G.sub v ⟨h', s.gens, s.drawn, tk, s.os⟩ _ S' ?_ fun g2 k2 m2 h2 tk2 x hr => hq .next g2 k2 m2 h2 tk2 ((Ext.grow S G).trans x (ns_some S.ns) S.offk S.offg) ⟨rfl, hr⟩
    cases r with
    | tup e r => exact ⟨_, _, rfl, ⟨_, S'.leg _ _ e, rfl, 0, rfl⟩, r⟩) hs hw
theorem E1.unpack2 {x y : Str} {px py tp pos : Pos} {n : Nat} {e : Expr} {d₁ d₂ : D} (hh : A.handled = Option.none) (he : EV prog w A env g k m e fun g' v => Rp prog w g' v (.tup [d₁, d₂]))
    (hx : env.kindOf x = some .local := by rfl) (hy : env.kindOf y = some .local := by rfl) (hp : (env.scope.kind == .class || (env.scope.kind == .module && env.locals != env.globals)) = false := by rfl)
    (ht : (assignEach [.Name x px, .Name y py] env) = [(false, fun v => assign (.Name x px) env v), (false, fun v => assign (.Name y py) env v)] := by rfl)
    (hs : swapsWithSole [.Tuple [.Name x px, .Name y py] n tp] e pos.line env = pure false := by rfl) (hw : swappedStores [.Tuple [.Name x px, .Name y py] n tp] e env = pure Option.none := by rfl) :
    E1 prog w A env g k m (.Assign [.Tuple [.Name x px, .Name y py] n tp] e pos) (Nx fun g' k' m' => k' = k ∧ ∃ v₁ v₂, Rp prog w g' v₁ d₁ ∧ Rp prog w g' v₂ d₂ ∧ m' = upd (upd m x v₁) y v₂) :=
  E1.unpack he (fun g' s => EA.mono (EA.names2 hh hx hy hp ht) fun g2 k2 m2 s2 ⟨e1, e2, v₁, v₂, r₁, r₂, e3⟩ => ⟨e2, v₁, v₂, e1 ▸ r₁, e1 ▸ r₂, e3⟩) hs hw
theorem EX.while {test : Expr} {body rest : List Stmt} {pos : Pos} {R : Bs → Bs → Mp → Flow → Prop} (J : Nat → Bs → Bs → Mp → Prop) (n₀ : Nat) (h0 : J n₀ g k m)
    (turn : ∀ n g' k' m', SubB g g' → J n g' k' m' → ∃ c, ET prog w A env g' k' m' test c ∧ (c = true → EX prog w A env g' k' m' body fun g2 k2 m2 f => f = .next ∧ ∃ n', n' < n ∧ J n' g2 k2 m2) ∧ (c = false → EX prog w A env g' k' m' rest R)) :
    EX prog w A env g k m (.While test body [] pos :: rest) R :=
  EX.then (E1.while (RR := fun g' k' m' => SubB g g' ∧ EX prog w A env g' k' m' rest R) J n₀ h0 fun n g' k' m' s hJ => by
    obtain ⟨c, a, b, d⟩ := turn n g' k' m' s hJ
    exact ⟨c, a, b, fun e => ⟨s, d e⟩⟩) fun g' k' m' _ r => r.2
end
end Mine
end
/-! B1 -/
section
open PySem PySem.W PyProof.Rows PySem.Calls
namespace Mine
theorem slot_bytes_join : Slot "bytes" "join" "bytes.join" :=
  .of (owner := "bytes") (n := "join") (by rw [typeLookup_type, builtinLookup_eq_fast]; kernel_rfl) (by decide +kernel) (by decide +kernel) (by decide +kernel)
    (by first | exact .inl (by decide +kernel) | exact .inr (by decide +kernel)) (by rw [isSubtype_type]; kernel_rfl)
theorem type_bytes_join : typeOf (.builtin "bytes.join") = pure (.type "method_descriptor") := by show builtinType _ = _; rw [builtinType_eq_fast]; kernel_rfl
theorem entry_bytes_join : entryFor table "bytes.join" = some Builtin.«bytes.join» := entryFor_of_tree (by kernel_rfl)
theorem args_bytes_join (a b : Value) : argsOk "bytes.join" ⟨[a, b], []⟩ := by
  unfold argsOk; rw [signature?_of (id := "bytes.join") (n := ['n', 'i', 'o', 'j']) (o := ['s', 'e', 't', 'y', 'b']) (by kernel_rfl) FB.owner_bytes]; kernel_rfl
theorem wpAny_forRange {M : Model} {A : Around} {E : Value → Shared → Prop} {s : Shared} {β : Type} {n : Nat} (f : Nat → β → Sem (ForInStep β)) (I : Nat → β → Shared → Prop) (Q : β → Shared → Prop)
    (turn : ∀ i c s, i < n → I i c s → wpAny M A (f i c) (fun r s' => match r with | .yield b' => I (i + 1) b' s' | .done b' => Q b' s') E s)
    (fin : ∀ c s, I n c s → Q c s) (c : β) (h : I 0 c s) : wpAny M A (forIn [0:n] c f) Q E s := by
  rw [Std.Legacy.Range.forIn_eq_forIn_range']
  have hsz : ([0:n] : Std.Legacy.Range).size = n := by simp [Std.Legacy.Range.size]
  show wpAny M A (forIn (List.range' 0 ([0:n] : Std.Legacy.Range).size 1) c f) Q E s
  rw [hsz]
  refine wpAny_forIn_list f (fun l c s => ∃ i, i ≤ n ∧ l = List.range' i (n - i) 1 ∧ I i c s) Q ?_ ?_ _ c ⟨0, by omega, by simp, h⟩
  · rintro x rest c s ⟨i, hi, hl, hI⟩
    have hlt : i < n := by
      rcases Nat.lt_or_ge i n with h' | h'
      · exact h'
      · rw [show n - i = 0 by omega] at hl; simp at hl
    obtain ⟨q, hq⟩ : ∃ q, n - i = q + 1 := ⟨n - i - 1, by omega⟩
    rw [hq, List.range'_succ] at hl
    obtain ⟨rfl, rfl⟩ := List.cons.inj hl
    refine wpAny_mono (turn x c s hlt hI) (fun r s' h' => ?_) fun _ _ e => e
    cases r with
    | done c' => exact h'
    | yield c' => exact ⟨x + 1, by omega, by congr 1; omega, h'⟩
  · rintro c s ⟨i, hi, hl, hI⟩
    have : i = n := by
      rcases Nat.lt_or_ge i n with h' | h'
      · obtain ⟨q, hq⟩ : ∃ q, n - i = q + 1 := ⟨n - i - 1, by omega⟩
        rw [hq, List.range'_succ] at hl; simp at hl
      · omega
    subst this; exact fin _ _ hI
section
variable {prog : Program} {w : World} {A : Around} {E : Value → Shared → Prop} {s : Shared}
theorem joined_aux : ∀ (ls : List (Array UInt8)) (k : Nat) (acc : Array UInt8), ((ls.zipIdx k).foldl (fun out (x : Array UInt8 × Nat) => (if x.2 > 0 then out ++ #[] else out) ++ x.1) acc).toList = acc.toList ++ (ls.map Array.toList).flatten
  | [], k, acc => by simp
  | x :: r, k, acc => by
    rw [List.zipIdx_cons, List.foldl_cons, joined_aux r]
    simp
theorem joined_nil (ls : List (Array UInt8)) : Builtin.Bytes.joined #[] ls = (ls.map Array.toList).flatten.toArray := by
  apply Array.toList_inj.mp
  have := joined_aux ls 0 #[]
  simp only [List.nil_append] at this
  exact this
theorem foldl_sizes : ∀ (ls : List (Array UInt8)) (k : Nat), ls.foldl (fun a b => a + b.size) k = k + (ls.map Array.toList).flatten.length
  | [], k => by simp
  | x :: r, k => by rw [List.foldl_cons, foldl_sizes r]; simp; omega
theorem wpAny_joinLetGo {M : Model} {A : Around} {E : Value → Shared → Prop} {s : Shared} {keep : List Value} {Q : Unit → Shared → Prop} (hq : Q () s) : ∀ taken : List (Value × Option Value), (∀ p ∈ taken, p.2 = none) → wpAny M A (Builtin.Bytes.joinLetGo taken keep) Q E s
  | [], _ => by rw [Builtin.Bytes.joinLetGo]; exact wpAny_pure hq
  | (x, w) :: r, h => by
    have hw : w = none := h (x, w) (.head _)
    subst hw
    rw [Builtin.Bytes.joinLetGo]
    · exact wpAny_bind (wpAny_letGo (wpAny_joinLetGo hq r fun p hp => h p (.tail _ hp)))
    · intro _ e; cases e
theorem take_bytes {id : String} {b : Array UInt8} {t : Tok} : Builtin.Bytes.takeBufferQuiet? id (.bytes b t) 0 = pure (some (b, none)) := by
  unfold Builtin.Bytes.takeBufferQuiet? Builtin.Bytes.takeBuffer?
  have e : ((0 : Int) == Builtin.Bytes.fullReadOnly) = false := by decide
  rw [KBy.special_eq KBy.look_buffer, KBy.own_buffer, e, KBy.buffer_eq]
  kernel_rfl
theorem call_bytes_join {t : Tok} {a : Addr} {vs : List Value} {n : Nat} {bs : List (Array UInt8)} {Q : Value → Shared → Prop} (ha : s.heap.get? a = some (lstO vs n)) (hv : ∀ i : Nat, i < vs.length → ∃ b t, vs[i]? = some (.bytes b t) ∧ bs[i]? = some b) (hl : vs.length = bs.length) (h2 : 2 ≤ vs.length)
    (hz : (bs.map Array.toList).flatten.length ≤ 16777216) (hQ : ∀ t' k, Q (.bytes (bs.map Array.toList).flatten.toArray t') { s with toks := k }) : wpAny (model prog w) A (call (.builtin "bytes.join") [.bytes #[] t, .ref a]) Q E s := by
  refine wpAny_call_entry slot_bytes_join (typeIs_bytes s _ t) entry_bytes_join ?_ (args_bytes_join _ _)
  unfold Builtin.«bytes.join» Builtin.Bytes.joinM
  dsimp only
  refine wpAny_bind (wpAny_pure ?_)
  rw [if_pos (by decide)]
  unfold Builtin.Bytes.joinItems
  have hT : s.TypeIs (.ref a) "list" := ⟨_, ha, rfl⟩
  refine wpAny_bind (wpAny_bind (wpAny_typeOf hT ?_))
  refine wpAny_ite ?_
  rw [if_pos (by decide)]
  refine wpAny_pure ?_
  have hseq : ∀ (Q' : Option (Array Value) → Shared → Prop), Q' (some vs.toArray) s → wpAny (model prog w) A.in1 (seqItems? (.ref a)) Q' E s := fun Q' h => wpAny_bind (wpAny_load ha (wpAny_pure h))
  refine wpAny_bind (hseq _ ?_)
  dsimp only
  rw [if_pos (by decide)]
  obtain ⟨v0, v1, rest, rfl⟩ : ∃ v0 v1 rest, vs = v0 :: v1 :: rest := by
    rcases vs with _ | ⟨v0, _ | ⟨v1, rest⟩⟩
    · simp at h2
    · simp at h2
    · exact ⟨_, _, _, rfl⟩
  refine wpAny_bind ?_
  refine wpAny_forRange _ (fun i c s' => s' = s ∧ c.1.toList = bs.take i ∧ ∀ p ∈ c.2, p.2 = none) _ ?_ ?_ _ ⟨rfl, rfl, fun _ h => nomatch h⟩
  · rintro i ⟨parts, taken⟩ s' hi ⟨rfl, hc, hn⟩
    refine wpAny_bind (hseq _ ?_)
    obtain ⟨b, tb, hvi, hbi⟩ := hv i (by simpa using hi)
    have hget : (v0 :: v1 :: rest).toArray.getD i Value.none = .bytes b tb := by
      rw [Array.getD_eq_getD_getElem?, List.getElem?_toArray, hvi]; rfl
    simp only [hget]
    have go : ∀ {β : Type} (c : β → Prop), True := fun _ => trivial
    refine wpAny_ite ?_
    have fin : (fun (i : Nat) (c : Array (Array UInt8) × List (Value × Option Value)) (s'' : Shared) => s'' = s' ∧ c.1.toList = bs.take i ∧ ∀ p ∈ c.2, p.2 = none) (i + 1) (parts.push b, taken ++ [(Value.bytes b tb, none)]) s' := by
      refine ⟨rfl, ?_, fun p hp => ?_⟩
      · rw [Array.toList_push, List.take_add_one, hbi]; rw [show parts.toList = _ from hc]; rfl
      · rcases List.mem_append.mp hp with h | h
        · exact hn p h
        · rw [List.mem_singleton.mp h]
    split
    · rw [KBy.special_eq KBy.look_buffer]
      refine wpAny_bind (wpAny_pure ?_)
      refine wpAny_bind (wpAny_holding (wpAny_of_eq take_bytes ?_))
      refine wpAny_bind (hseq _ ?_)
      refine wpAny_ite ?_
      rw [if_neg (by simp)]
      exact wpAny_pure fin
    · refine wpAny_bind (wpAny_holding (wpAny_of_eq take_bytes ?_))
      refine wpAny_bind (hseq _ ?_)
      refine wpAny_ite ?_
      rw [if_neg (by simp)]
      exact wpAny_pure fin
  · rintro ⟨parts, taken⟩ s' ⟨rfl, hc, hn⟩
    have hp : parts = bs.toArray := by
      apply Array.toList_inj.mp
      rw [show parts.toList = _ from hc]
      have : (v0 :: v1 :: rest).toArray.size = bs.length := by rw [List.size_toArray, hl]
      rw [this, List.take_of_length_le (Nat.le_refl _)]
    subst hp
    refine wpAny_bind (wpAny_of_eq (a := #[]) rfl ?_)
    refine wpAny_ite ?_
    have e : bs.toArray.foldl (fun a b => a + b.size) ((#[] : Array UInt8).size * (bs.toArray.size - 1)) = (bs.map Array.toList).flatten.length := by
      rw [List.foldl_toArray, foldl_sizes]; simp
    rw [if_neg (by rw [e, KBy.tooLong_not hz]; exact Bool.false_ne_true)]
    have ej : Builtin.Bytes.joined #[] bs.toArray.toList = (bs.map Array.toList).flatten.toArray := joined_nil bs
    refine wpAny_bind (wpAny_mkBytes ?_ (by rw [ej, List.size_toArray, sizeLine_eq]; exact hz))
    refine wpAny_bind (wpAny_holding (wpAny_point ?_))
    refine wpAny_bind (wpAny_joinLetGo ?_ _ hn)
    exact wpAny_pure ⟨_, rfl, by rw [ej]; exact hQ _ _⟩
end
end Mine
end
/-! R1 -/
section
open PySem PySem.W PyProof.Rows PySem.Calls
open Sem (wp)
namespace Mine
section
variable {prog : Program} {w : World} {A : Around} {E : Value → Shared → Prop} {s : Shared} {R : Result → Shared → Prop}
theorem codeR_call_function {a : Addr} {args : Args} {o : Obj} {fd : FuncData} {body : List Stmt} (hroom : A.depth < recursionLimit) (ho : s.heap.get? a = some o)
    (hd' : o.data = .func fd) (hco : fd.scope.isCoroutine = false) (hgen : fd.scope.isGenerator = false) (hbody : fd.body = .stmts body) (hcd : s.heap.CodeRec fd.code fd.qualname)
    (h : wpAny (model prog w) A.in1 (bindArgs fd args) (fun binds s₁ => wpAny (model prog w) A.in1 (newFunctionEnv fd.scope fd.globals fd.closure binds (fd.qualname ++ ".<locals>.") (some a) fd.code none fd.builtins)
        (fun env s₂ => s₂.heap.NoLimit ∧ codeR (model prog w) A (.func body env) R s₂) (fun e s' => R (.error e) s') s₁) (fun e s' => R (.error e) s') s) : codeR (model prog w) A (.call (.ref a) args) R s := by
  refine codeR_of_tree (wpR_of ?_)
  show wpAny _ A.in1 (callAny (.ref a) args) _ _ s
  simp only [callAny]
  refine wpAny_bind (wpAny_load ho ?_)
  obtain ⟨c, oc, vs, tq, hc, hoc, hdc, hq⟩ := hcd
  simp only [hd', callFunction, hco, hgen, hbody, hc]
  rw [hc] at h
  refine wpAny_bind (m := field (.ref c) 1) (wpAny_field hoc hdc hq (wpAny_bind (wpAny_pure ?_)))
  exact wpAny_bind (wpAny_mono h (fun binds s₁ h₁ => wpAny_bind (wpAny_mono h₁ (fun env s₂ h₂ => wpAny_bind (wpAny_enterFrame h₂.1 hroom (wpAny_pure ⟨rfl, rfl, h₂.2⟩))) fun _ _ h' => h')) fun _ _ h' => h')
theorem codeR_func {body : List Stmt} {env : Env} (h : wpR (model prog w) (A.deeper env) (execs body env) (fun f s' => R (.ok (.ret (match f with | .ret v => v | _ => .none))) s') (fun _ _ => False) s) : codeR (model prog w) A (.func body env) R s := by
  refine codeR_of_tree ?_
  show wpR _ (A.deeper env) (do point; match ← (execs body env).onRaise (leaving env) with | .ret v => ret v | _ => ret .none) _ _ s
  refine wpR_first (wpAny_point (wpR_bind (wpR_onRaise (wpR_mono h (fun f s' h' => ?_) fun _ _ h' => h'.elim))))
  cases f <;> exact wpR_pure h'
theorem codeR_builtin {id : String} {args : Args} {b : Builtin} (hb : entryFor table id = some b)
    (h : wpR (model prog w) (A.under (.builtin id args)) (b args) (fun fin s' => match fin with | .done f => R (.ok f) s' | .again c' => c'.quiet = true ∧ calm c' = true ∧ codeR (model prog w) A c' R s') (fun e s' => R (.error e) s') s) :
    codeR (model prog w) A (.builtin id args) R s := by
  refine codeR_of_tree ?_
  show wpR _ _ (match entryFor table id with | some b => b args | none => unsupported ((withoutEnding? id "#data").getD id)) _ _ s
  rw [hb]; exact h
end
end Mine
end
/-! R2 -/
section
open PySem PySem.W PyProof.Rows PySem.Calls
open Sem (wp)
namespace Mine
theorem ba_mro : mroOf (.type "bytearray") = pure [.type "bytearray", .type "object"] := by rw [mroOf_type]; kernel_rfl
theorem ba_lookup_new : typeLookup (.type "bytearray") "__new__" = pure (some (.builtin "bytearray.__new__")) := by rw [typeLookup_type, builtinLookup_eq_fast]; kernel_rfl
theorem ba_slot_init : Slot "bytearray" "__init__" "bytearray.__init__" :=
  .of (owner := "bytearray") (n := "__init__") (by rw [typeLookup_type, builtinLookup_eq_fast]; kernel_rfl) (by decide +kernel) (by decide +kernel) (by decide +kernel)
    (by first | exact .inl (by decide +kernel) | exact .inr (by decide +kernel)) (by rw [isSubtype_type]; kernel_rfl)
theorem ba_called : TypeCalled "bytearray" "bytearray.__new__" "bytearray.__init__" :=
  ⟨by decide +kernel, by decide +kernel, ⟨_, _, ba_mro⟩, madeBy_type ba_mro ba_lookup_new (by decide +kernel), by decide +kernel, by rw [isSubtype_type]; kernel_rfl, ba_slot_init⟩
theorem ba_typeCall (a : Value) : checkTypeCall "bytearray" ⟨[a], []⟩ = pure () := by kernel_rfl
theorem ba_newCall (a : Value) : checkBuiltinCall "bytearray.__new__" ⟨[.type "bytearray", a], []⟩ = pure () := by kernel_rfl
theorem ba_entry_new : entryFor table "bytearray.__new__" = some Builtin.«list.__new__» :=
  entryFor_alias (id' := "list.__new__") (by rw [fastTable_eq_tree]; kernel_rfl) (by first | rfl | decide +kernel) (by decide +kernel) (by rw [fastTable_eq_tree]; kernel_rfl)
theorem ba_plain_new : plainId "bytearray.__new__" = true := by decide +kernel
set_option maxRecDepth 1000000 in
set_option maxHeartbeats 4000000 in
theorem ba_owner_new : ("bytearray.__new__".splitOn ".__new__").headD "" = "bytearray" := by simp +decide [String.splitOn, String.splitOnAux]
theorem ba_sub_self : isSubtype (.type "bytearray") (.type "bytearray") = pure true := by rw [isSubtype_type]; kernel_rfl
theorem ba_entry_init : entryFor table "bytearray.__init__" = some Builtin.«bytearray.__init__» := entryFor_of_tree (by kernel_rfl)
theorem ba_owner : Manifest.owners.lookup (String.ofList ['y', 'a', 'r', 'r', 'a', 'e', 't', 'y', 'b'].reverse) = some Manifest.sig_bytearray := by kernel_rfl
theorem ba_args_init (a b : Value) : argsOk "bytearray.__init__" ⟨[a, b], []⟩ := by
  unfold argsOk; rw [signature?_of (id := "bytearray.__init__") (n := ['_', '_', 't', 'i', 'n', 'i', '_', '_']) (o := ['y', 'a', 'r', 'r', 'a', 'e', 't', 'y', 'b']) (by kernel_rfl) ba_owner]; kernel_rfl
noncomputable abbrev baO (b : Array UInt8) : Obj := { cls := .type "bytearray", data := .bytearray b }
section
variable {prog : Program} {w : World} {A : Around} {E : Value → Shared → Prop} {s : Shared}
theorem ba_code_new (a : Value) {Q₁ : Value → Shared → Prop} (h : Q₁ (.ref s.heap.objs.size) { s with heap := s.heap.push (baO #[]) }) :
    codeAny (model prog w) A (.call (.builtin "bytearray.__new__") ⟨[.type "bytearray", a], []⟩) (wants Q₁ E) s := by
  refine codeAny_of_tree ?_
  show wpAny _ A.in1 (do checkBuiltinCall "bytearray.__new__" ⟨[.type "bytearray", a], []⟩; again (.builtin "bytearray.__new__" ⟨[.type "bytearray", a], []⟩)) _ _ s
  refine wpAny_bind (wpAny_of_eq (ba_newCall a) (wpAny_pure ⟨plainId_quiet ba_plain_new _, codeAny_builtin_stack ba_entry_new rfl fun p st => ?_⟩))
  rw [Around.under_plainId ba_plain_new _]
  have hsub := ba_sub_self
  have hown := ba_owner_new
  obtain ⟨hp, g, d, tk, os⟩ := s
  simp only [hown]
  wp_walk
  exact h
end
end Mine
end
/-! R3 -/
section
open PySem PySem.W PyProof.Rows PySem.Calls
open Sem (wp)
namespace Mine
section
variable {prog : Program} {w : World} {A : Around} {E : Value → Shared → Prop} {s : Shared}
theorem any_calm {f : Code × Pos → Bool} (hf : ∀ c p, calm c = true → f (c, p) = false) : ∀ st : List (Code × Pos), (∀ x ∈ st, calm x.1 = true) → st.any f = false
  | [], _ => rfl
  | (c, p) :: r, h => by rw [List.any_cons, hf c p (h (c, p) (.head _)), any_calm hf r fun y hy => h y (.tail _ hy)]; rfl
theorem calm_dec {id : String} {args : Args} (h : calm (.builtin id args) = true) : Builtin.Bytes.decodersThatHold.contains id = false := by
  cases hq : Builtin.Bytes.decodersThatHold.contains id with
  | false => rfl
  | true =>
    exfalso
    have : loud.contains id = true := by
      unfold loud
      rw [List.contains_iff_mem] at hq ⊢
      exact List.mem_append_right _ hq
    have hx' : (!loud.contains id) = true := h
    rw [this] at hx'; cases hx'
theorem wpR_exported {self : Value} {Q : Bool → Shared → Prop} (h : Q false s) : wpR (model prog w) A (Builtin.Bytes.exported self) Q E s := by
  unfold Builtin.Bytes.exported
  refine wpR_bind (wpR_stack fun st hst => wpR_pure ?_)
  rw [any_calm (fun c p hc => ?_) st hst]
  · exact h
  · cases c with
    | builtin id args =>
      have ne : ∀ x, loud.contains x = true → ¬ id = x := fun x hx e => by
        have h1 : (!loud.contains id) = true := hc
        rw [e, hx] at h1; cases h1
      obtain ⟨pos, kw⟩ := args
      delta Builtin.Bytes.exported.match_1
      refine (dif_neg (ne "bytearray.__contains__" (by decide +kernel))).trans ?_
      refine (dif_neg (ne "bytearray.__mod__" (by decide +kernel))).trans ?_
      refine (dif_neg (ne "bytearray.__rmod__" (by decide +kernel))).trans ?_
      refine (dif_neg (ne "_struct.pack_into.held" (by decide +kernel))).trans ?_
      refine (dif_neg (ne "bytearray.find.held" (by decide +kernel))).trans ?_
      cases pos with
      | nil => rfl
      | cons v r =>
        show (_ && Builtin.Bytes.decodersThatHold.contains id) = false
        rw [calm_dec hc, Bool.and_false]
    | _ => rfl
theorem ba_look_release : typeLookup (.type "bytearray") "__release_buffer__" = pure (some (.builtin "bytearray.__release_buffer__")) := by rw [typeLookup_type, builtinLookup_eq_fast]; kernel_rfl
theorem wpAny_baRelease {a : Addr} {Q : Bool → Shared → Prop} (hT : s.TypeIs (.ref a) "bytearray") (h : Q false s) : wpAny (model prog w) A (Builtin.Bytes.ownRelease (.ref a)) Q E s := by
  unfold Builtin.Bytes.ownRelease Builtin.Bytes.slotIsOwn
  refine wpAny_bind (wpAny_bind (wpAny_specialOf hT ba_look_release ?_))
  dsimp only
  refine wpAny_ite ?_
  rw [if_neg (by decide +kernel)]
  have key : ∀ x : String, x = "bytearray" → wpAny (model prog w) A (isInstance (.ref a) (.type x)) (fun b s' => wpAny (model prog w) A (pure !b) Q E s') E s := fun x hx => by
    rw [hx]; exact wpAny_isInstance hT ba_called.sub (wpAny_pure h)
  exact key _ (by decide +kernel)
theorem ba_bind (v : Value) : Builtin.Bytes.bindOptional "bytearray.__init__" "bytearray" ["source", "encoding", "errors"] [v] [] = pure [some v, none, none] := by kernel_rfl
theorem wpAny_baWrite {a : Addr} {b : Array UInt8} {f : Array UInt8 → Array UInt8} {Q : Unit → Shared → Prop} (ha : s.heap.get? a = some (baO b)) (hz : (f b).size ≤ 16777216) (h : ∀ h', Heap.SameBut a s.heap h' → h'.get? a = some (baO (f b)) → Q () { s with heap := h' }) :
    wpAny (model prog w) A (Builtin.Bytes.write (.ref a) f) Q E s := by
  show wpAny _ _ (updateBytearray a f) _ _ _
  unfold updateBytearray
  refine wpAny_bind (wpAny_load ha ?_)
  show wpAny _ _ (update a (Obj.mapBytearray f) >>= fun _ => lookBehind a) _ _ _
  refine wpAny_bind (wpAny_update ha ?_)
  have hS : (s.heap.update a (Obj.mapBytearray f)).get? a = some (baO (f b)) := Heap.get?_update_self (Obj.mapBytearray f) ha rfl
  refine wpAny_lookBehind hS ?_ (h _ (Heap.SameBut.update ..) hS)
  show (if (f b).size > sizeLine then some "bytearray:memory" else none) = none
  rw [if_neg (by rw [sizeLine_eq]; omega)]
theorem ba_init {n : Int} {t : Tok} {a : Addr} {Q : Fin → Shared → Prop} (h0 : 0 ≤ n) (h1 : n ≤ 16777216) (ha : s.heap.get? a = some (baO #[])) (hQ : ∀ h', Heap.SameBut a s.heap h' → h'.get? a = some (baO (Array.replicate n.toNat 0)) → Q (.done (.ret .none)) { s with heap := h' }) :
    wpR (model prog w) A (Builtin.«bytearray.__init__» ⟨[.ref a, .int n t], []⟩) Q E s := by
  unfold Builtin.«bytearray.__init__»
  have hT : s.TypeIs (.ref a) "bytearray" := ⟨_, ha, rfl⟩
  refine wpR_first (wpAny_baRelease hT ?_)
  refine wpR_ite ?_
  rw [if_neg (by decide)]
  refine wpR_bind (wpR_of_eq (ba_bind _) ?_)
  refine wpR_bind (wpR_of_eq (a := ()) rfl ?_)
  refine wpR_bind (wpR_of_eq (a := ()) rfl ?_)
  refine wpR_bind ?_
  refine wpR_bind (wpR_exported ?_)
  refine wpR_of ?_
  show wpAny _ _ (do let __do_lift ← Builtin.Bytes.exportsOf (Value.ref a); pure (decide (__do_lift > 0))) _ _ _
  refine wpAny_bind ?_
  unfold Builtin.Bytes.exportsOf
  refine wpAny_bind (wpAny_load ha (wpAny_pure (wpAny_pure ?_)))
  refine wpR_of ?_
  refine wpAny_ite ?_
  rw [if_neg (by decide)]
  refine wpAny_bind (wpAny_baWrite ha (by decide) fun h₁ hs₁ hb₁ => ?_)
  refine wpAny_bind (wpAny_of_eq (a := none) rfl ?_)
  refine wpAny_ite ?_
  rw [if_neg (by decide)]
  refine wpAny_bind (wpAny_of_eq (a := ()) rfl ?_)
  refine wpAny_bind (wpAny_specialOf (T := "int") (typeIs_int _ _ _) F.slot_int_index.lookup ?_)
  refine wpAny_ite ?_
  rw [if_pos (by rfl)]
  refine wpAny_bind (wpAny_of_eq (a := Except.ok n) rfl ?_)
  dsimp only
  refine wpAny_ite ?_
  rw [if_neg (by simp only [Builtin.Bytes.fitsIndex, Bool.not_eq_true', Bool.and_eq_false_iff, decide_eq_false_iff_not]; omega)]
  refine wpAny_ite ?_
  rw [if_neg (by omega)]
  refine wpAny_ite ?_
  rw [if_neg (by simp only [beq_iff_eq]; omega)]
  refine wpAny_ite ?_
  rw [if_neg (by rw [KBy.tooLong_not (by omega)]; exact Bool.false_ne_true)]
  refine wpAny_bind (wpAny_rule ?_)
  have up : ∀ h', Heap.SameBut a h₁ h' → Heap.SameBut a s.heap h' := fun h' x => ⟨x.1.trans hs₁.1, fun b hb => (x.2 b hb).trans (hs₁.2 b hb)⟩
  refine wpAny_ite ?_
  by_cases hp : n > 0
  · rw [if_pos hp]
    refine wpAny_bind (wpAny_baWrite hb₁ (by simp; omega) fun h₂ hs₂ hb₂ => ?_)
    exact wpAny_pure (hQ h₂ (up h₂ hs₂) hb₂)
  · rw [if_neg hp]
    have hz : n = 0 := by omega
    subst hz
    exact wpAny_pure (hQ h₁ hs₁ hb₁)
theorem ba_call {n : Int} {t : Tok} {Q : Value → Shared → Prop} (h0 : 0 ≤ n) (h1 : n ≤ 16777216) (hQ : ∀ h', Heap.SameBut s.heap.objs.size (s.heap.push (baO #[])) h' → h'.get? s.heap.objs.size = some (baO (Array.replicate n.toNat 0)) → Q (.ref s.heap.objs.size) { s with heap := h' }) :
    wpR (model prog w) A (PySem.call (.type "bytearray") [.int n t]) Q E s := by
  refine wpR_call (codeR_of_tree ?_)
  show wpR _ _ (callAny (.type "bytearray") _) _ _ _
  refine wpR_pure ⟨Code.quiet_builtin _ (by decide +kernel), rfl, codeR_builtin F.entry_type_call ?_⟩
  rw [Around.under_plain (weight_type_call_type "bytearray" [.int n t] []) rfl]
  unfold Builtin.«type.__call__»
  dsimp only
  refine wpR_ite ?_
  rw [if_neg (by rw [ba_called.notType]; exact Bool.false_ne_true)]
  refine wpR_ite ?_
  rw [if_neg (by rw [ba_called.canCreate]; exact Bool.false_ne_true)]
  refine wpR_bind (wpR_of_eq (ba_typeCall _) ?_)
  refine wpR_bind (wpR_of_eq ba_mro ?_)
  refine wpR_ite ?_
  rw [if_neg (by decide)]
  refine wpR_bind (wpR_of_eq ba_called.made ?_)
  dsimp only
  refine wpR_bind (wpR_pure ?_)
  have hnew : s.heap.get? s.heap.objs.size = none := Heap.get?_none_of_le (Nat.le_refl _)
  have hself : (s.heap.push (baO #[])).get? s.heap.objs.size = some (baO #[]) := Heap.get?_push_size _ rfl
  refine wpR_first (wpAny_holding (wpAny_call (codeAny_mono (ba_code_new (E := fun _ _ => False) (Q₁ := fun v s' => v = .ref s.heap.objs.size ∧ s' = { s with heap := s.heap.push (baO #[]) }) _ ⟨rfl, rfl⟩) fun r s' hr => ?_)))
  cases r with
  | error e => exact hr.elim
  | ok fl =>
    cases fl with
    | ret v =>
      obtain ⟨rfl, rfl⟩ := hr
      have hT : Shared.TypeIs { s with heap := s.heap.push (baO #[]) } (.ref s.heap.objs.size) "bytearray" := ⟨_, hself, rfl⟩
      refine wpR_first (wpAny_isInstance hT ba_called.sub ?_)
      refine wpR_ite ?_
      rw [if_neg (by decide)]
      refine wpR_bind (wpR_holding ?_)
      simp only [callSpecial?]
      refine wpR_first (wpAny_specialOf hT ba_slot_init.lookup ?_)
      simp only [ba_slot_init.bind]
      refine wpR_holding (wpR_bind (wpR_pure (wpR_bind ?_)))
      refine wpR_call (codeR_of_tree ?_)
      show wpR _ A.in1.in1 (do checkBuiltinCall "bytearray.__init__" ⟨[.ref s.heap.objs.size, .int n t], []⟩; again (.builtin "bytearray.__init__" ⟨[.ref s.heap.objs.size, .int n t], []⟩)) _ _ _
      refine wpR_first (ba_slot_init.check _ _ _ _ _ _ _ _ hT (ba_args_init _ _) (wpR_pure ⟨plainId_quiet ba_slot_init.plain _, (by decide +kernel : calm (.builtin "bytearray.__init__" {}) = true), codeR_builtin ba_entry_init ?_⟩))
      rw [Around.under_plainId ba_slot_init.plain _]
      refine ba_init h0 h1 hself fun h' hs hb => ?_
      refine wpR_pure ?_
      dsimp only
      refine wpR_ite ?_
      rw [if_neg (by decide)]
      exact wpR_pure (hQ h' hs hb)
    | _ => exact hr.elim
end
end Mine
end
/-! R4 -/
section
open PySem PySem.W PyProof.Rows PySem.Calls
open Sem (wp)
namespace Mine
theorem ba_slot_setitem : Slot "bytearray" "__setitem__" "bytearray.__setitem__" :=
  .of (owner := "bytearray") (n := "__setitem__") (by rw [typeLookup_type, builtinLookup_eq_fast]; kernel_rfl) (by decide +kernel) (by decide +kernel) (by decide +kernel)
    (by first | exact .inl (by decide +kernel) | exact .inr (by decide +kernel)) (by rw [isSubtype_type]; kernel_rfl)
theorem ba_entry_setitem : entryFor table "bytearray.__setitem__" = some Builtin.«bytearray.__setitem__» := entryFor_of_tree (by kernel_rfl)
theorem ba_args_setitem (a b c : Value) : argsOk "bytearray.__setitem__" ⟨[a, b, c], []⟩ := by
  unfold argsOk; rw [signature?_of (id := "bytearray.__setitem__") (n := ['_', '_', 'm', 'e', 't', 'i', 't', 'e', 's', '_', '_']) (o := ['y', 'a', 'r', 'r', 'a', 'e', 't', 'y', 'b']) (by kernel_rfl) ba_owner]; kernel_rfl
theorem ba_no_bytes : typeLookup (.type "bytearray") "__bytes__" = pure none := by rw [typeLookup_type, builtinLookup_eq_fast]; kernel_rfl
theorem ba_no_index : typeLookup (.type "bytearray") "__index__" = pure none := by rw [typeLookup_type, builtinLookup_eq_fast]; kernel_rfl
theorem ba_look_buffer : typeLookup (.type "bytearray") "__buffer__" = pure (some (.builtin "bytearray.__buffer__")) := by rw [typeLookup_type, builtinLookup_eq_fast]; kernel_rfl
theorem ifF {α : Type} {M : Model} {A : Around} {E : Value → Shared → Prop} {s : Shared} {c : Bool} {a b : Sem α} {Q : α → Shared → Prop} (hc : c = false) (h : wpAny M A b Q E s) : wpAny M A (if c = true then a else b) Q E s := by subst hc; exact h
theorem ifT {α : Type} {M : Model} {A : Around} {E : Value → Shared → Prop} {s : Shared} {c : Bool} {a b : Sem α} {Q : α → Shared → Prop} (hc : c = true) (h : wpAny M A a Q E s) : wpAny M A (if c = true then a else b) Q E s := by subst hc; exact h
section
variable {prog : Program} {w : World} {A : Around} {E : Value → Shared → Prop} {s : Shared}
theorem ba_subscript {i : Int} {t : Tok} {Q : Option Int → Shared → Prop} (hi : Builtin.Bytes.fitsIndex i = true) (h : Q (some i) s) : wpAny (model prog w) A (Builtin.Bytes.subscript? (.int i t)) Q E s := by
  unfold Builtin.Bytes.subscript?
  refine wpAny_bind (wpAny_specialOf (typeIs_int s i t) F.slot_int_index.lookup ?_)
  show wpAny _ A (if (!Builtin.Bytes.fitsIndex i) = true then _ else pure (some i)) _ E s
  rw [hi]
  exact wpAny_pure h
theorem ba_byte {v : Int} {u : Tok} {Q : UInt8 → Shared → Prop} (hv0 : 0 ≤ v) (hv1 : v < 256) (h : Q v.toNat.toUInt8 s) : wpAny (model prog w) A (Builtin.Bytes.byteValue (.int v u)) Q E s := by
  unfold Builtin.Bytes.byteValue
  refine wpAny_bind (wpAny_of_eq (a := v) rfl ?_)
  refine wpAny_ite ?_
  rw [if_neg (by simp only [Bool.or_eq_true, decide_eq_true_eq]; omega)]
  exact wpAny_pure h
theorem ba_setItem {a : Addr} {b : Array UInt8} {k : Nat} {v : Int} {t u : Tok} {Q : Unit → Shared → Prop} (ha : s.heap.get? a = some (baO b)) (hk : k < b.size) (hv0 : 0 ≤ v) (hv1 : v < 256) (hz : b.size ≤ 16777216)
    (hQ : ∀ h', Heap.SameBut a s.heap h' → h'.get? a = some (baO (b.setIfInBounds k v.toNat.toUInt8)) → Q () { s with heap := h' }) : wpAny (model prog w) A (setItem (.ref a) (.int (k : Int) t) (.int v u)) Q E s := by
  have hT : s.TypeIs (.ref a) "bytearray" := ⟨_, ha, rfl⟩
  unfold setItem
  try with_reducible refine wpAny_holding ?_
  refine wpAny_bind (wpAny_sequenceKey hT (by decide) ?_)
  refine wpAny_bind (wpAny_callSpecial?_slot (name := Str.ofString "__setitem__") hT ba_slot_setitem (wpAny_call_entry ba_slot_setitem hT ba_entry_setitem ?_ (ba_args_setitem _ _ _)))
  unfold Builtin.«bytearray.__setitem__»
  refine wpAny_ite ?_
  rw [if_neg (by simp)]
  have hf : Builtin.Bytes.fitsIndex (k : Int) = true := by
    simp only [Builtin.Bytes.fitsIndex, Bool.and_eq_true, decide_eq_true_eq]; omega
  show wpAny _ _ (Builtin.Bytes.subscript? (.int (k : Int) t) >>= _) _ _ _
  refine wpAny_bind ?_
  refine ba_subscript ?_ ?_
  · exact hf
  dsimp only
  refine wpAny_bind ?_
  refine ba_byte ?_ ?_ ?_
  · exact hv0
  · exact hv1
  refine wpAny_bind ?_
  unfold Builtin.Bytes.payload Builtin.Bytes.payload?
  refine wpAny_bind (wpAny_bind (wpAny_load ha (wpAny_pure (wpAny_pure ?_))))
  have e : seqIndex? (k : Int) b.size = some k := by
    have hn : ¬ ((k : Int) < 0) := by omega
    simp [seqIndex?, hn, hk]
  rw [e]
  refine wpAny_bind (wpAny_baWrite ha (by rw [Array.size_setIfInBounds]; exact hz) fun h' hs hb => ?_)
  exact wpAny_pure ⟨_, rfl, wpAny_pure (hQ h' hs hb)⟩
end
end Mine
end
/-! R5 -/
section
open PySem PySem.W PyProof.Rows PySem.Calls
open Sem (wp)
namespace Mine
section
variable {prog : Program} {w : World} {A : Around} {E : Value → Shared → Prop} {s : Shared}
theorem wpAny_baOwn {a : Addr} {Q : Bool → Shared → Prop} (hT : s.TypeIs (.ref a) "bytearray") (h : Q true s) : wpAny (model prog w) A (Builtin.Bytes.slotIsOwn (.ref a) "__buffer__") Q E s := by
  unfold Builtin.Bytes.slotIsOwn
  refine wpAny_bind (wpAny_specialOf hT ba_look_buffer ?_)
  dsimp only
  refine wpAny_ite ?_
  rw [if_neg (by decide +kernel)]
  have key : ∀ x : String, x = "bytearray" → wpAny (model prog w) A (isInstance (.ref a) (.type x)) Q E s := fun x hx => by
    rw [hx]; exact wpAny_isInstance hT ba_called.sub h
  exact key _ (by decide +kernel)
theorem bytes_of_ba {a : Addr} {b : Array UInt8} {Q : Value → Shared → Prop} (ha : s.heap.get? a = some (baO b)) (hz : b.size ≤ 16777216) (hQ : ∀ t k, Q (.bytes b t) { s with toks := k }) :
    codeAny (model prog w) A (.call (.builtin "bytes.__new__") ⟨[.type "bytes", .ref a], []⟩) (wants Q E) s := by
  refine codeAny_of_tree ?_
  show wpAny _ A.in1 (do checkBuiltinCall "bytes.__new__" ⟨[.type "bytes", .ref a], []⟩; again (.builtin "bytes.__new__" ⟨[.type "bytes", .ref a], []⟩)) _ _ s
  refine wpAny_bind (wpAny_of_eq (F.bm_newCall _) (wpAny_pure ⟨plainId_quiet F.bm_plain _, codeAny_builtin F.bm_entry ?_⟩))
  rw [Around.under_plainId F.bm_plain _]
  have hT : s.TypeIs (.ref a) "bytearray" := ⟨_, ha, rfl⟩
  unfold Builtin.«bytes.__new__»
  refine wpAny_bind (wpAny_of_eq (a := true) rfl ?_)
  refine bm_if_false rfl ?_
  refine wpAny_bind (wpAny_of_eq F.bm_sub ?_)
  refine bm_if_false rfl ?_
  refine wpAny_bind (wpAny_of_eq (F.bm_bind _) ?_)
  refine wpAny_bind (wpAny_of_eq (a := ()) rfl ?_)
  refine wpAny_bind (wpAny_of_eq (a := ()) rfl ?_)
  refine bm_if_false rfl ?_
  refine wpAny_bind (wpAny_specialOf hT ba_no_bytes ?_)
  refine wpAny_bind (wpAny_bind ?_)
  show wpAny _ _ (load a >>= _) _ _ _
  refine wpAny_bind (wpAny_load ha ?_)
  refine wpAny_pure (wpAny_pure ?_)
  refine bm_if_false rfl ?_
  refine wpAny_bind (wpAny_specialOf hT ba_no_index ?_)
  refine bm_if_true rfl ?_
  first
    | show wpAny _ _ (Builtin.Bytes.buffer? "bytes.__new__" (.ref a) true >>= _) _ _ _
    | (refine wpAny_bind ?_; show wpAny _ _ (Builtin.Bytes.buffer? "bytes.__new__" (.ref a) true >>= _) _ _ _)
  refine wpAny_bind ?_
  unfold Builtin.Bytes.buffer?
  refine wpAny_bind (wpAny_specialOf hT ba_look_buffer ?_)
  refine wpAny_bind (wpAny_baOwn hT ?_)
  refine wpAny_ite ?_
  rw [if_neg (by decide)]
  refine wpAny_bind (wpAny_specialOf hT ba_look_buffer ?_)
  refine wpAny_bind (wpAny_baRelease hT ?_)
  refine wpAny_ite ?_
  rw [if_neg (by decide)]
  refine wpAny_bind ?_
  unfold Builtin.Bytes.payload Builtin.Bytes.payload?
  refine wpAny_bind (wpAny_bind (wpAny_load ha (wpAny_pure (wpAny_pure (wpAny_pure ?_)))))
  refine wpAny_bind (wpAny_rule ?_)
  refine wpAny_bind (wpAny_mkBytes ?_ (by rw [sizeLine_eq]; exact hz))
  show wpAny _ _ (if (Value.type "bytes" == Value.type "bytes") = true then _ else _) _ _ _
  refine bm_if_true (by decide) ?_
  first
    | exact wpAny_pure (hQ _ _)
    | exact wpAny_bind (wpAny_pure (wpAny_pure (hQ _ _)))
theorem call_bytes_ba {a : Addr} {b : Array UInt8} {Q : Value → Shared → Prop} (ha : s.heap.get? a = some (baO b)) (hz : b.size ≤ 16777216) (hQ : ∀ t k, Q (.bytes b t) { s with toks := k }) :
    wpAny (model prog w) A (PySem.call (.type "bytes") [.ref a]) Q E s := by
  refine callType_codes (Q₁ := fun obj s₁ => s₁.TypeIs obj "bytes" ∧ Q obj s₁) F.bm_called (F.bm_typeCall _) F.entry_object_init
    (bytes_of_ba ha hz fun t k => ⟨PySem.W.typeIs_bytes _ _ _, hQ t k⟩) fun obj s₁ h₁ => ?_
  exact ⟨h₁.1, F.args_object_init_2 obj _, object_init_meets F.bm_called.init.lookup F.bm_called.made (by decide) prog w A.in1 _ s₁ ⟨h₁.1, rfl, h₁.2⟩⟩
end
end Mine
end
/-! M16 -/
section
open PySem PySem.W PyProof.Rows PySem.Calls
open Sem (wp)
namespace Mine
noncomputable def outG (g' k' k₀ : Bs) : Bs := fun b => (g' b).or (if (k₀ b).isSome then none else k' b)
noncomputable def outK (k' k₀ : Bs) : Bs := fun b => if (k₀ b).isSome then k' b else none
theorem outG_l {g' k' k₀ : Bs} : SubB g' (outG g' k' k₀) := fun b o e => by unfold outG; rw [e]; rfl
theorem outG_r {g' k' k₀ : Bs} (dis : ∀ b o, g' b = some o → k' b = none) {b : Addr} {o : Obj} (e : k' b = some o) (n : k₀ b = none) : outG g' k' k₀ b = some o := by
  unfold outG
  have hg : g' b = none := by
    cases q : g' b with
    | none => rfl
    | some o' => rw [dis b o' q] at e; cases e
  rw [hg, n]; exact e
theorem outG_of {g' k' k₀ : Bs} {b : Addr} {o : Obj} (e : outG g' k' k₀ b = some o) : g' b = some o ∨ (k₀ b = none ∧ k' b = some o) := by
  unfold outG at e
  cases q : g' b with
  | some o' => rw [q] at e; exact .inl e
  | none =>
    rw [q] at e
    cases r : k₀ b with
    | none => rw [r] at e; exact .inr ⟨rfl, e⟩
    | some _ => rw [r] at e; cases e
/-- a frame is laid out: the names, the cells, and how what comes of it is seen from without -/
theorem enterEnv {M : Model} {A : Around} {E : Value → Shared → Prop} {s : Shared} {scope : Scope} {qn : Str} {f : Addr} {cdv : Value} {binds : List (Str × Value)} {g k₀ : Bs} {Q : Env → Shared → Prop} (hk : scope.kind = .function)
    (hkind : (binds.all fun y => scope.names.lookup y.1 == some .local || scope.names.lookup y.1 == some .cell) = true) (hg : LeB g s.heap) (hk₀ : LeB k₀ s.heap) (dis : ∀ b o, g b = some o → k₀ b = none)
    (hQ : ∀ k h₁ tk, let env := envX qn scope s.heap.objs.size f cdv (cellsFrom (s.heap.objs.size + 1) scope.names [])
      St env.locals g k (bindL env.kindOf binds fun _ => none) h₁ → LeH s.heap h₁ → SubB k₀ k →
      (∀ n c, (cellsFrom (s.heap.objs.size + 1) scope.names []).lookup n = some c → k₀ c = none ∧ ∃ o, k c = some o ∧ o.data = .cell (bindC env.kindOf binds (fun _ => none) n)) →
      (∀ g' k' m' h', Ext env.locals g k h₁ g' k' m' h' → ExE g k₀ s.heap (outG g' k' k₀) (outK k' k₀) h') → Q env { s with heap := h₁, toks := tk }) :
    wpAny M A (newFunctionEnv scope mainGlobals [] binds (qn ++ ".<locals>.") (some f) cdv none builtinsNs) Q E s := by
  refine wpAny_newFunctionEnv_cells hk (kindsX hkind _) fun env' he s' x => ?_
  subst he
  have keep := x.toInCall.keep
  obtain ⟨h₁, tk, rfl, _⟩ := x.done
  let cs := cellsFrom (s.heap.objs.size + 1) scope.names []
  let kk : Bs := fun b => if b ∈ cs.map (·.2) then h₁.get? b else k₀ b
  have hL : s.heap.get? s.heap.objs.size = none := Heap.get?_none_of_le (Nat.le_refl _)
  have above : ∀ b, b ∈ cs.map (·.2) → s.heap.objs.size < b := fun b hb' => by
    obtain ⟨p, hp, rfl⟩ := List.mem_map.mp hb'
    exact x.above p.1 p.2 hp
  have noc : ∀ b o, s.heap.get? b = some o → b ∉ cs.map (·.2) := fun b o e hm => Nat.lt_asymm (above b hm) (Heap.lt_size e)
  have koff : ∀ b, b ∈ cs.map (·.2) → k₀ b = none := fun b hm => by
    cases q : k₀ b with
    | none => rfl
    | some o => exact absurd hm (noc b o (hk₀ b o q))
  have kkc : ∀ b, b ∈ cs.map (·.2) → kk b = h₁.get? b := fun b hm => if_pos hm
  have kkn : ∀ b, b ∉ cs.map (·.2) → kk b = k₀ b := fun b hm => if_neg hm
  have gL : g s.heap.objs.size = none := by
    cases q : g s.heap.objs.size with
    | none => rfl
    | some o => have := hg _ _ q; rw [hL] at this; cases this
  have kL : kk s.heap.objs.size = none := by
    rw [kkn _ fun hm => Nat.lt_irrefl _ (above _ hm)]
    cases q : k₀ s.heap.objs.size with
    | none => rfl
    | some o => have := hk₀ _ _ q; rw [hL] at this; cases this
  have S : St s.heap.objs.size g kk (bindL (envX qn scope s.heap.objs.size f cdv cs).kindOf binds fun _ => none) h₁ := by
    refine ⟨x.toInCall.ns, hg.trans keep, fun b o e => ?_, fun b o e => ?_, gL, kL⟩
    · by_cases hm : b ∈ cs.map (·.2)
      · rw [kkc b hm] at e; exact e
      · rw [kkn b hm] at e; exact keep b o (hk₀ b o e)
    · rw [kkn b (noc b o (hg b o e))]; exact dis b o e
  refine hQ kk h₁ tk S keep (fun b o e => ?_) (fun n c e => ?_) fun g' k' m' h' X => ?_
  · rw [kkn b (noc b o (hk₀ b o e))]; exact e
  · have hm : c ∈ cs.map (·.2) := List.mem_map.mpr ⟨(n, c), mem_of_lookup e, rfl⟩
    obtain ⟨o, ho', hd'⟩ := x.cell n c e
    exact ⟨koff c hm, o, by rw [kkc c hm]; exact ho', hd'⟩
  · have old : ∀ b o, s.heap.get? b = some o → k₀ b = none → h'.get? b = some o := fun b o e n =>
      X.pres b o (keep b o e) (by rw [kkn b (noc b o e)]; exact n) (Nat.ne_of_lt (Heap.lt_size e))
    refine ⟨fun b o e => (outG_of e).elim (X.st.leg b o) fun y => X.st.lek b o y.2, fun b o e => ?_, fun b o e => ?_, X.sub.trans outG_l, old, fun b o e n => ?_, fun b o e n => ?_⟩
    · unfold outK at e
      split at e
      · exact X.st.lek b o e
      · cases e
    · unfold outK
      split
      · rename_i hs
        rcases outG_of e with y | y
        · exact X.st.dis b o y
        · rw [y.1] at hs; cases hs
      · rfl
    · cases q : s.heap.get? b with
      | none => exact .inl rfl
      | some ob =>
        right
        cases r : k₀ b with
        | some _ => rfl
        | none =>
          exfalso
          have e1 := keep b ob q
          have kn : kk b = none := by rw [kkn b (noc b ob q)]; exact r
          rcases outG_of e with y | y
          · rcases X.newg b o y n with z | z
            · have z' : h₁.get? b = none := z
              rw [e1] at z'; cases z'
            · rw [kn] at z; cases z
          · have z : h₁.get? b = none := X.newk b o y.2 kn
            rw [e1] at z; cases z
    · unfold outK at e
      rw [n] at e; cases e

/-! the contract of a def that may turn what its arguments reach -/
noncomputable def FK (prog : Program) (w : World) (d : Nat) (f : Addr) (vs : List Value) (kw : List (Str × Value)) (g k₀ : Bs) (R : Bs → Bs → Value → Prop) : Prop :=
  ∀ (A : Around) (s : Shared) (Q : Value → Shared → Prop), A.handled = none → A.depth + d < recursionLimit → LeB g s.heap → LeB k₀ s.heap → (∀ b o, g b = some o → k₀ b = none) →
    (∀ g' k' v h' tk, ExE g k₀ s.heap g' k' h' → R g' k' v → Q v { s with heap := h', toks := tk }) → wpAny (model prog w) A (PySem.call (.ref f) vs kw) Q nE s
/-- in a calm stack -/
noncomputable def FR (prog : Program) (w : World) (d : Nat) (f : Addr) (vs : List Value) (kw : List (Str × Value)) (g k₀ : Bs) (R : Bs → Bs → Value → Prop) : Prop :=
  ∀ (A : Around) (s : Shared) (Q : Value → Shared → Prop), A.handled = none → A.depth + d < recursionLimit → LeB g s.heap → LeB k₀ s.heap → (∀ b o, g b = some o → k₀ b = none) →
    (∀ g' k' v h' tk, ExE g k₀ s.heap g' k' h' → R g' k' v → Q v { s with heap := h', toks := tk }) → wpR (model prog w) A (PySem.call (.ref f) vs kw) Q nE s
noncomputable def EXR (prog : Program) (w : World) (A : Around) (env : Env) (g k : Bs) (m : Mp) (ss : List Stmt) (R : Bs → Bs → Mp → Flow → Prop) : Prop :=
  ∀ (s : Shared) (Q : Flow → Shared → Prop), St env.locals g k m s.heap → (∀ f g' k' m' h' tk, Ext env.locals g k s.heap g' k' m' h' → R g' k' m' f → Q f { s with heap := h', toks := tk }) → wpR (model prog w) A (execs ss env) Q nE s
noncomputable def E1R (prog : Program) (w : World) (A : Around) (env : Env) (g k : Bs) (m : Mp) (st : Stmt) (R : Bs → Bs → Mp → Flow → Prop) : Prop :=
  ∀ (s : Shared) (Q : Flow → Shared → Prop), St env.locals g k m s.heap → (∀ f g' k' m' h' tk, Ext env.locals g k s.heap g' k' m' h' → R g' k' m' f → Q f { s with heap := h', toks := tk }) → wpR (model prog w) A (exec st env) Q nE s
noncomputable def EVR (prog : Program) (w : World) (A : Around) (env : Env) (g k : Bs) (m : Mp) (e : Expr) (R : Bs → Bs → Value → Prop) : Prop :=
  ∀ (s : Shared) (Q : Value → Shared → Prop), St env.locals g k m s.heap → (∀ g' k' v h' tk, ExE g k s.heap g' k' h' → R g' k' v → Q v { s with heap := h', toks := tk }) → wpR (model prog w) A (eval e env) Q nE s

section
variable {prog : Program} {w : World} {d : Nat} {f : Addr} {vs : List Value} {kw : List (Str × Value)} {g k₀ : Bs} {R : Bs → Bs → Value → Prop} {fo : Obj} {name qual : Str} {params : Arguments} {stmts : List Stmt} {scope : Scope} {dV kV doc pm cdv ct : Value} {an : Option Addr} {binds : List (Str × Value)}
theorem FK.body (ho : g f = some fo) (hfd : fo.data = .func (fnX name qual params stmts scope [] dV kV doc pm an cdv ct)) (hcode : ∀ h, LeB g h → h.CodeRec cdv qual) (hlim : ∀ h, LeB g h → h.NoLimit)
    (hbind : BD (fnX name qual params stmts scope [] dV kV doc pm an cdv ct) ⟨vs, kw⟩ g binds)
    (hkind : (binds.all fun y => scope.names.lookup y.1 == some .local || scope.names.lookup y.1 == some .cell) = true)
    (hb : ∀ (A : Around) (L : Addr) (k : Bs), A.handled = none → A.depth + d < recursionLimit → SubB k₀ k →
      (∀ n c, (cellsFrom (L + 1) scope.names []).lookup n = some c → k₀ c = none ∧ ∃ o, k c = some o ∧ o.data = .cell (bindC (envX qual scope L f cdv (cellsFrom (L + 1) scope.names [])).kindOf binds (fun _ => none) n)) →
      EX prog w A (envX qual scope L f cdv (cellsFrom (L + 1) scope.names [])) g k (bindL (envX qual scope L f cdv (cellsFrom (L + 1) scope.names [])).kindOf binds fun _ => none) stmts
        fun g' k' m' fl => (∀ b o, g' b = some o → k' b = none) → R (outG g' k' k₀) (outK k' k₀) (match fl with | .ret v => v | _ => .none))
    (hco : scope.isCoroutine = false := by rfl) (hgen : scope.isGenerator = false := by rfl) (hk : scope.kind = .function := by rfl) : FK prog w (d + 1) f vs kw g k₀ R := by
  intro A s Q hh hd hg hk₀ dis hq
  refine wpAny_call ?_
  refine codeAny_call_function (by omega) (hg _ _ ho) hfd hco hgen rfl (hcode _ hg) (hbind _ _ _ _ _ hg ?_)
  refine enterEnv hk hkind hg hk₀ dis fun k h₁ tk S keep sub cells out => ⟨hlim _ (hg.trans keep), codeAny_func ?_⟩
  have hD : (A.deeper (envX qual scope s.heap.objs.size f cdv (cellsFrom (s.heap.objs.size + 1) scope.names []))).depth + d < recursionLimit := by
    have : (A.deeper (envX qual scope s.heap.objs.size f cdv (cellsFrom (s.heap.objs.size + 1) scope.names []))).depth = A.depth + 1 := rfl
    omega
  have hA : (A.deeper (envX qual scope s.heap.objs.size f cdv (cellsFrom (s.heap.objs.size + 1) scope.names []))).handled = none := hh
  refine wpAny_mono (hb _ _ k hA hD sub cells { s with heap := h₁, toks := tk } _ S fun fl g' k' m' h' tk' X r => ?_) (fun _ _ y => y) fun _ _ y => y.elim
  exact hq _ _ _ h' tk' (out g' k' m' h' X) (r X.st.dis)
theorem FR.body (ho : g f = some fo) (hfd : fo.data = .func (fnX name qual params stmts scope [] dV kV doc pm an cdv ct)) (hcode : ∀ h, LeB g h → h.CodeRec cdv qual) (hlim : ∀ h, LeB g h → h.NoLimit)
    (hbind : BD (fnX name qual params stmts scope [] dV kV doc pm an cdv ct) ⟨vs, kw⟩ g binds)
    (hkind : (binds.all fun y => scope.names.lookup y.1 == some .local || scope.names.lookup y.1 == some .cell) = true)
    (hb : ∀ (A : Around) (L : Addr) (k : Bs), A.handled = none → A.depth + d < recursionLimit → SubB k₀ k →
      (∀ n c, (cellsFrom (L + 1) scope.names []).lookup n = some c → k₀ c = none ∧ ∃ o, k c = some o ∧ o.data = .cell (bindC (envX qual scope L f cdv (cellsFrom (L + 1) scope.names [])).kindOf binds (fun _ => none) n)) →
      EXR prog w A (envX qual scope L f cdv (cellsFrom (L + 1) scope.names [])) g k (bindL (envX qual scope L f cdv (cellsFrom (L + 1) scope.names [])).kindOf binds fun _ => none) stmts
        fun g' k' m' fl => (∀ b o, g' b = some o → k' b = none) → R (outG g' k' k₀) (outK k' k₀) (match fl with | .ret v => v | _ => .none))
    (hco : scope.isCoroutine = false := by rfl) (hgen : scope.isGenerator = false := by rfl) (hk : scope.kind = .function := by rfl) : FR prog w (d + 1) f vs kw g k₀ R := by
  intro A s Q hh hd hg hk₀ dis hq
  refine wpR_call ?_
  refine codeR_call_function (by omega) (hg _ _ ho) hfd hco hgen rfl (hcode _ hg) (hbind _ _ _ _ _ hg ?_)
  refine enterEnv hk hkind hg hk₀ dis fun k h₁ tk S keep sub cells out => ⟨hlim _ (hg.trans keep), codeR_func ?_⟩
  have hD : (A.deeper (envX qual scope s.heap.objs.size f cdv (cellsFrom (s.heap.objs.size + 1) scope.names []))).depth + d < recursionLimit := by
    have : (A.deeper (envX qual scope s.heap.objs.size f cdv (cellsFrom (s.heap.objs.size + 1) scope.names []))).depth = A.depth + 1 := rfl
    omega
  have hA : (A.deeper (envX qual scope s.heap.objs.size f cdv (cellsFrom (s.heap.objs.size + 1) scope.names []))).handled = none := hh
  refine wpR_mono (hb _ _ k hA hD sub cells { s with heap := h₁, toks := tk } _ S fun fl g' k' m' h' tk' X r => ?_) (fun _ _ y => y) fun _ _ y => y.elim
  exact hq _ _ _ h' tk' (out g' k' m' h' X) (r X.st.dis)
end
end Mine
end
/-! M17 -/
section
open PySem PySem.W PyProof.Rows PySem.Calls
open Sem (wp)
namespace Mine
theorem ExE.trans {g k g₁ k₁ g₂ k₂ : Bs} {h h₁ h₂ : Heap} (a : ExE g k h g₁ k₁ h₁) (b : ExE g₁ k₁ h₁ g₂ k₂ h₂) : ExE g k h g₂ k₂ h₂ := by
  have kept : ∀ x o, h.get? x = some o → k x = Option.none → k₁ x = Option.none := fun x o e n => by
    cases q : k₁ x with
    | none => rfl
    | some o' => have := a.newk x o' q n; rw [e] at this; cases this
  refine ⟨b.leg, b.lek, b.dis, a.sub.trans b.sub, fun x o e n => b.pres x o (a.pres x o e n) (kept x o e n), fun x o e n => ?_, fun x o e n => ?_⟩
  · cases q : g₁ x with
    | some o' => exact a.newg x o' q n
    | none =>
      cases u : k x with
      | some _ => exact .inr rfl
      | none =>
        left
        rcases b.newg x o e q with r | r
        · cases t : h.get? x with
          | none => rfl
          | some o' => rw [a.pres x o' t u] at r; cases r
        · obtain ⟨o', ho'⟩ := Option.isSome_iff_exists.mp r
          exact a.newk x o' ho' u
  · cases q : k₁ x with
    | some o' => exact a.newk x o' q n
    | none =>
      have r := b.newk x o e q
      cases t : h.get? x with
      | none => rfl
      | some o' => rw [a.pres x o' t n] at r; cases r
noncomputable def over (k₀ k' k : Bs) : Bs := fun b => if (k₀ b).isSome then k' b else k b
theorem ExE.over {L : Addr} {g k k₀ g' k' : Bs} {m : Mp} {h h' : Heap} (x : ExE g k₀ h g' k' h') (S : St L g k m h) (sub : SubB k₀ k) : ExE g k h g' (over k₀ k' k) h' := by
  refine ⟨x.leg, fun b o e => ?_, fun b o e => ?_, x.sub, fun b o e n => x.pres b o e ?_, fun b o e n => ?_, fun b o e n => ?_⟩
  · unfold Mine.over at e
    split at e
    · exact x.lek b o e
    · rename_i hn
      exact x.pres b o (S.lek b o e) (by cases q : k₀ b with | none => rfl | some _ => rw [q] at hn; exact absurd rfl hn)
  · unfold Mine.over
    split
    · exact x.dis b o e
    · rename_i hn
      have k0 : k₀ b = Option.none := by cases q : k₀ b with | none => rfl | some _ => rw [q] at hn; exact absurd rfl hn
      cases q : k b with
      | none => rfl
      | some o' =>
        exfalso
        cases r : g b with
        | some o2 => have := S.dis b o2 r; rw [q] at this; cases this
        | none =>
          rcases x.newg b o e r with z | z
          · rw [S.lek b o' q] at z; cases z
          · rw [k0] at z; cases z
  · cases q : k₀ b with
    | none => rfl
    | some o' => rw [sub b o' q] at n; cases n
  · rcases x.newg b o e n with z | z
    · exact .inl z
    · obtain ⟨o', ho'⟩ := Option.isSome_iff_exists.mp z
      rw [sub b o' ho']; exact .inr rfl
  · unfold Mine.over at e
    split at e
    · rename_i hs
      obtain ⟨o', ho'⟩ := Option.isSome_iff_exists.mp hs
      rw [sub b o' ho'] at n; cases n
    · rw [n] at e; cases e
theorem over_nok {k' k : Bs} : over nok k' k = k := rfl
/-- one thing alone -/
noncomputable def one1 (c : Addr) (o : Obj) : Bs := setk nok c o
theorem over_one {c : Addr} {o o' : Obj} {k' k : Bs} (e : k' c = some o') : over (one1 c o) k' k = setk k c o' := by
  funext b
  by_cases hb : b = c
  · subst hb; simp [over, one1, setk, e]
  · simp [over, one1, setk, nok, hb]
theorem ExE.turn {L : Addr} {g k : Bs} {m : Mp} {h h' : Heap} {c : Addr} {o o' : Obj} (S : St L g k m h) (hc : k c = some o) (hs : Heap.SameBut c h h') (ho : h'.get? c = some o') : ExE g k h g (setk k c o') h' :=
  let X := Ext.turn S hc hs ho
  ⟨X.st.leg, X.st.lek, X.st.dis, X.sub, fun b o e n => (hs.2 b (fun q => by subst q; rw [hc] at n; cases n)).trans e, X.newg, X.newk⟩
section
variable {prog : Program} {w : World} {A : Around} {env : Env} {g k : Bs} {m : Mp}
noncomputable def CM (prog : Program) (w : World) (A : Around) (L : Addr) (g k : Bs) (m : Mp) (fv : Value) (vs : List Value) (kw : List (Str × Value)) (R : Bs → Bs → Value → Prop) : Prop :=
  ∀ (s : Shared) (Q : Value → Shared → Prop), St L g k m s.heap → (∀ g' k' v h' tk, ExE g k s.heap g' k' h' → R g' k' v → Q v { s with heap := h', toks := tk }) → wpAny (model prog w) A (PySem.call fv vs kw) Q nE s
noncomputable def CMR (prog : Program) (w : World) (A : Around) (L : Addr) (g k : Bs) (m : Mp) (fv : Value) (vs : List Value) (kw : List (Str × Value)) (R : Bs → Bs → Value → Prop) : Prop :=
  ∀ (s : Shared) (Q : Value → Shared → Prop), St L g k m s.heap → (∀ g' k' v h' tk, ExE g k s.heap g' k' h' → R g' k' v → Q v { s with heap := h', toks := tk }) → wpR (model prog w) A (PySem.call fv vs kw) Q nE s
theorem FK.toCM {L : Addr} {d : Nat} {f : Addr} {vs : List Value} {kw : List (Str × Value)} {k₀ : Bs} {R : Bs → Bs → Value → Prop} (h : FK prog w d f vs kw g k₀ R) (hh : A.handled = Option.none) (hd : A.depth + d < recursionLimit) (sub : SubB k₀ k) :
    CM prog w A L g k m (.ref f) vs kw fun g' k' v => ∃ k1, k' = over k₀ k1 k ∧ R g' k1 v := fun s Q S hq =>
  h A s Q hh hd S.leg (fun b o e => S.lek b o (sub b o e)) (fun b o e => by
    cases q : k₀ b with
    | none => rfl
    | some o' => have := S.dis b o e; rw [sub b o' q] at this; cases this) fun g' k' v h' tk x r => hq g' _ v h' tk (x.over S sub) ⟨k', rfl, r⟩
theorem FR.toCMR {L : Addr} {d : Nat} {f : Addr} {vs : List Value} {kw : List (Str × Value)} {k₀ : Bs} {R : Bs → Bs → Value → Prop} (h : FR prog w d f vs kw g k₀ R) (hh : A.handled = Option.none) (hd : A.depth + d < recursionLimit) (sub : SubB k₀ k) :
    CMR prog w A L g k m (.ref f) vs kw fun g' k' v => ∃ k1, k' = over k₀ k1 k ∧ R g' k1 v := fun s Q S hq =>
  h A s Q hh hd S.leg (fun b o e => S.lek b o (sub b o e)) (fun b o e => by
    cases q : k₀ b with
    | none => rfl
    | some o' => have := S.dis b o e; rw [sub b o' q] at this; cases this) fun g' k' v h' tk x r => hq g' _ v h' tk (x.over S sub) ⟨k', rfl, r⟩
theorem EM.call {f : Str} {np pos : Pos} {e : Expr} {es : List Expr} {fv : Value} {RL : Bs → List Value → Prop} {R : Bs → Bs → Value → Prop} (hf : EP prog w A env g k m (.Name f np) (isV fv)) (hk : Kp g fv) (ha : EL prog w A env g k m (e :: es) RL)
    (hc : ∀ g' vs, SubB g g' → RL g' vs → CM prog w A env.locals g' k m fv vs [] R)
    (hst : starEach (e :: es) env = (false, eval e env) :: starEach es env := by rfl) (hpl : ((backTo pos (starEach (e :: es) env)).any (·.1) || (backToKw pos (keywordEach [] env)).any (·.1.isNone)) = false := by rfl) :
    EM prog w A env g k m (.Call (.Name f np) (e :: es) [] pos) R := fun s Q S hq => by
  refine wpAny_Call_ofName (hf s _ S fun v h' tk l r => ?_)
  have hv : v = fv := r
  subst hv
  refine callWith_of (P := fun h => LeB g h) hpl (fun h x => hk.looks h x) ?_
  have ha' := ha pos { s with heap := h', toks := tk } (fun vs s₁ => LeB g s₁.heap ∧ wpAny (model prog w) A (PySem.call v ([] ++ vs) []) Q nE s₁) (S.leH l) fun g' vs h'' tk'' G2 r2 =>
    ⟨fun b o e => G2.leg b o (G2.sub b o e), hc g' vs G2.sub r2 { s with heap := h'', toks := tk'' } _ ((S.leH l).grow G2) fun g3 k3 v3 h3 tk3 G3 r3 => hq _ _ _ _ _ (((ExE.ofGr S (Gr.leH S.leg l)).trans (ExE.ofGr (S.leH l) G2)).trans G3) r3⟩
  rw [hst] at ha' ⊢
  exact evalArgs_plain ha'
theorem EVR.of {e : Expr} {R : Bs → Bs → Value → Prop} (h : EM prog w A env g k m e R) : EVR prog w A env g k m e R := fun s Q S hq => wpR_of (h s Q S hq)
theorem EVR.mono {e : Expr} {R R' : Bs → Bs → Value → Prop} (h : EVR prog w A env g k m e R) (hr : ∀ g' k' v, SubB g g' → R g' k' v → R' g' k' v) : EVR prog w A env g k m e R' := fun s Q S hq => h s Q S fun g' k' v h' tk x r => hq g' k' v h' tk x (hr g' k' v x.sub r)
theorem EVR.call {f : Str} {np pos : Pos} {e : Expr} {es : List Expr} {fv : Value} {RL : Bs → List Value → Prop} {R : Bs → Bs → Value → Prop} (hf : EP prog w A env g k m (.Name f np) (isV fv)) (hk : Kp g fv) (ha : EL prog w A env g k m (e :: es) RL)
    (hc : ∀ g' vs, SubB g g' → RL g' vs → CMR prog w A env.locals g' k m fv vs [] R)
    (hst : starEach (e :: es) env = (false, eval e env) :: starEach es env := by rfl) (hpl : ((backTo pos (starEach (e :: es) env)).any (·.1) || (backToKw pos (keywordEach [] env)).any (·.1.isNone)) = false := by rfl) :
    EVR prog w A env g k m (.Call (.Name f np) (e :: es) [] pos) R := fun s Q S hq => by
  show wpR (model prog w) A (do callWith pos (← eval (.Name f np) env) [] (backTo pos (starEach (e :: es) env)) (backToKw pos (keywordEach [] env))) Q nE s
  refine wpR_first (hf s _ S fun v h' tk l r => ?_)
  have hv : v = fv := r
  subst hv
  unfold callWith
  have S' := S.leH l
  have ha' := ha pos { s with heap := h', toks := tk } (fun vs s₁ => ∃ g' h'' tk'', s₁ = { s with heap := h'', toks := tk'' } ∧ Gr g h' g' h'' ∧ RL g' vs) S' fun g' vs h'' tk'' G2 r2 => ⟨g', h'', tk'', rfl, G2, r2⟩
  rw [hst] at ha'
  refine wpR_first (wpAny_holding ?_)
  rw [hst]
  refine evalArgs_plain (wpAny_mono ha' (fun vs s₁ hx => ?_) fun _ _ x => x)
  obtain ⟨g', h'', tk'', rfl, G2, r2⟩ := hx
  have S2 := S'.grow G2
  refine wpR_bind (wpR_standAt ?_)
  rw [hst] at hpl
  simp only [hpl]
  obtain ⟨kk, hkk, L⟩ := (hk.mono G2.sub).looks (M := model prog w) h'' G2.leg
  refine wpR_first (L A _ _ _ (fun b o e => e) ?_)
  have core : wpR (model prog w) A (PySem.call v ([] ++ vs) []) Q nE { s with heap := h'', toks := tk'' } :=
    hc g' vs G2.sub r2 _ _ S2 fun g3 k3 v3 h3 tk3 G3 r3 => hq _ _ _ _ _ (((ExE.ofGr S (Gr.leH S.leg l)).trans (ExE.ofGr S' G2)).trans G3) r3
  have tail : ∀ {t : Sem Value}, wpR (model prog w) A t Q nE { s with heap := h'', toks := tk'' } → wpR (model prog w) A (t >>= fun r => holding [r] point >>= fun _ => pure r) Q nE { s with heap := h'', toks := tk'' } :=
    fun ht => wpR_bind (wpR_mono ht (fun r s₂ hr => wpR_first (wpAny_holding (wpAny_point (wpR_pure hr)))) fun _ _ x => x)
  have marked (mk : Value) : wpR (model prog w) A (callMarked mk v ([] ++ vs) []) Q nE { s with heap := h'', toks := tk'' } := by unfold callMarked; exact wpR_keep core
  rcases hkk with rfl | rfl | rfl <;> dsimp only <;> first | exact tail core | (split <;> first | exact tail core | exact tail (marked _))
theorem EVR.binL {l r : Expr} {op : Operator} {pos : Pos} {Rl R : Bs → Bs → Value → Prop} {Rr : Value → Prop} (hl : EVR prog w A env g k m l Rl) (hr : ∀ g' k' v, SubB g g' → Rl g' k' v → EP prog w A env g' k' m r Rr)
    (h : ∀ g' k' a b, Rl g' k' a → Rr b → BO prog w A op a b (R g' k')) : EVR prog w A env g k m (.BinOp l op r pos) R := fun s Q S hq => by
  rw [eval_BinOp]
  refine wpR_bind (hl s _ S fun g' k' a h₁ tk₁ X ra => wpR_first (wpAny_holding (hr g' k' a X.sub ra ⟨h₁, s.gens, s.drawn, tk₁, s.os⟩ _ (X.st S) fun b h₂ tk₂ l₂ rb => ?_)))
  refine wpR_bind (wpR_standAt (wpR_operate (wpR_of (h g' k' a b ra rb _ _ fun v tk rv => hq g' k' v h₂ tk (X.trans (ExE.ofGr (X.st S) (Gr.leH X.leg l₂))) rv))))
/-! statements in a calm stack -/
theorem wpR_execs_cons {st : Stmt} {rest : List Stmt} {s : Shared} {Q : Flow → Shared → Prop} {E : Value → Shared → Prop} (h : wpR (model prog w) A (exec st env) (fun f s' => match f with | .next => wpR (model prog w) A (execs rest env) Q E s' | f => Q f s') E s) : wpR (model prog w) A (execs (st :: rest) env) Q E s := by
  rw [execs_cons]
  refine wpR_bind (wpR_mono h (fun f s' h' => ?_) fun _ _ x => x)
  cases f <;> first | exact h' | exact wpR_pure h'
theorem EXR.of {ss : List Stmt} {R : Bs → Bs → Mp → Flow → Prop} (h : EX prog w A env g k m ss R) : EXR prog w A env g k m ss R := fun s Q S hq => wpR_of (h s Q S hq)
theorem E1R.of {st : Stmt} {R : Bs → Bs → Mp → Flow → Prop} (h : E1 prog w A env g k m st R) : E1R prog w A env g k m st R := fun s Q S hq => wpR_of (h s Q S hq)
theorem EXR.cons {st : Stmt} {rest : List Stmt} {R₁ R : Bs → Bs → Mp → Flow → Prop} (h₁ : E1R prog w A env g k m st R₁) (hn : ∀ g' k' m', SubB g g' → R₁ g' k' m' .next → EXR prog w A env g' k' m' rest R)
    (hr : ∀ g' k' m' f, f ≠ .next → SubB g g' → R₁ g' k' m' f → R g' k' m' f) : EXR prog w A env g k m (st :: rest) R := fun s Q S hq =>
  wpR_execs_cons (h₁ s _ S fun f g' k' m' h' tk x r => by
    have tr : ∀ {g'' k'' m'' h''}, Ext env.locals g' k' h' g'' k'' m'' h'' → Ext env.locals g k s.heap g'' k'' m'' h'' := fun y => x.trans y (ns_some S.ns) S.offk S.offg
    cases f with
    | next => exact hn g' k' m' x.sub r { s with heap := h', toks := tk } Q x.st fun f g'' k'' m'' h'' tk'' y r' => hq f g'' k'' m'' h'' tk'' (tr y) r'
    | brk => exact hq _ _ _ _ _ _ x (hr _ _ _ _ (by intro e; cases e) x.sub r)
    | cont => exact hq _ _ _ _ _ _ x (hr _ _ _ _ (by intro e; cases e) x.sub r)
    | ret v => exact hq _ _ _ _ _ _ x (hr _ _ _ _ (by intro e; cases e) x.sub r))
theorem EXR.thenR {st : Stmt} {rest : List Stmt} {R₁ : Bs → Bs → Mp → Prop} {R : Bs → Bs → Mp → Flow → Prop} (h₁ : E1R prog w A env g k m st (Nx R₁)) (hn : ∀ g' k' m', SubB g g' → R₁ g' k' m' → EXR prog w A env g' k' m' rest R) :
    EXR prog w A env g k m (st :: rest) R := .cons h₁ (fun g' k' m' s r => hn g' k' m' s r.2) fun g' k' m' f n s r => absurd r.1 n
theorem EXR.then {st : Stmt} {rest : List Stmt} {R₁ : Bs → Bs → Mp → Prop} {R : Bs → Bs → Mp → Flow → Prop} (h₁ : E1 prog w A env g k m st (Nx R₁)) (hn : ∀ g' k' m', SubB g g' → R₁ g' k' m' → EXR prog w A env g' k' m' rest R) :
    EXR prog w A env g k m (st :: rest) R := .thenR (E1R.of h₁) hn
theorem E1R.set {x : Str} {p pos : Pos} {e : Expr} {R : Bs → Bs → Value → Prop} (he : EVR prog w A env g k m e R) (hl : env.kindOf x = some .local := by rfl)
    (hp : (env.scope.kind == .class || (env.scope.kind == .module && env.locals != env.globals)) = false := by rfl) (hs : swapsWith e (some (.Name x p)) pos.line env = pure false := by rfl) :
    E1R prog w A env g k m (.Assign [.Name x p] e pos) (Nx fun g' k' m' => ∃ v, R g' k' v ∧ m' = upd m x v) := fun s Q S hq => by
  rw [exec_Assign_Name env x p e pos hs]
  refine wpR_bind (wpR_standAt (wpR_bind (he s _ S fun g' k' v h' tk X r => wpR_bind (wpR_standAt (wpR_first (wpAny_bindName (wpAny_storeName_local hl (X.st S).ns (fun h'' hn hb => wpR_pure ?_) hp)))))))
  exact hq .next g' k' (upd m x v) h'' _ ((X.ext S).trans (.store (X.st S) hn hb) (ns_some S.ns) S.offk S.offg) ⟨rfl, v, r, rfl⟩
theorem E1R.setC {x : Str} {p pos : Pos} {e : Expr} {c : Addr} {R : Bs → Bs → Value → Prop} (he : EVR prog w A env g k m e R) (hc : env.cells.lookup x = some c) (ho : ∀ g' k' v, R g' k' v → ∃ o v₀, k' c = some o ∧ o.data = .cell v₀) (hk : env.scope.kind = .function := by rfl) (hl : env.kindOf x = some .cell := by rfl)
    (hs : swapsWith e (some (.Name x p)) pos.line env = pure false := by rfl) :
    E1R prog w A env g k m (.Assign [.Name x p] e pos) (Nx fun g' k' m' => m' = m ∧ ∃ v k1 o', R g' k1 v ∧ o'.data = .cell (some v) ∧ k' = setk k1 c o') := fun s Q S hq => by
  rw [exec_Assign_Name env x p e pos hs]
  refine wpR_bind (wpR_standAt (wpR_bind (he s _ S fun g' k' v h' tk X r => ?_)))
  obtain ⟨o, v₀, ek, hd⟩ := ho g' k' v r
  refine wpR_bind (wpR_standAt (wpR_first (wpAny_bindName (wpAny_storeName_cell hk hl hc ⟨o, X.lek c o ek, hd⟩ fun h'' hv hb => wpR_pure ?_))))
  obtain ⟨o', ho', hd'⟩ := hv
  exact hq .next g' (setk k' c o') m h'' _ ((X.ext S).trans (.turn (X.st S) ek hb ho') (ns_some S.ns) S.offk S.offg) ⟨rfl, rfl, v, k', o', r, hd', rfl⟩
theorem EXR.ret {e : Expr} {pos : Pos} {rest : List Stmt} {R₁ : Bs → Bs → Value → Prop} {R : Bs → Bs → Mp → Flow → Prop} (he : EVR prog w A env g k m e R₁) (hr : ∀ g' k' v, SubB g g' → R₁ g' k' v → R g' k' m (.ret v)) : EXR prog w A env g k m (.Return (some e) pos :: rest) R := fun s Q S hq => by
  refine wpR_execs_cons ?_
  rw [exec_Return_some]
  exact wpR_bind (wpR_standAt (wpR_bind (he s _ S fun g' k' v h' tk X r => wpR_pure (hq _ g' k' m h' tk (X.ext S) (hr g' k' v X.sub r)))))
/-- a bytearray of so many noughts -/
theorem EVR.bytearray {np pos : Pos} {e : Expr} {n : Nat} (hn : EP prog w A env g k m (.Name "bytearray" np) (isV (.type "bytearray"))) (he : EP prog w A env g k m e (isI (n : Int))) (h1 : n ≤ 16777216) (hst : starEach [e] env = (false, eval e env) :: starEach [] env := by rfl)
    (hpl : ((backTo pos (starEach [e] env)).any (·.1) || (backToKw pos (keywordEach [] env)).any (·.1.isNone)) = false := by rfl) :
    EVR prog w A env g k m (.Call (.Name "bytearray" np) [e] [] pos) fun g' k' v => ∃ a, k a = Option.none ∧ v = .ref a ∧ k' = setk k a (baO (Array.replicate n 0)) :=
  EVR.call hn trivial (.one he hst) (fun g' vs hs ⟨v, ev, t, et⟩ s Q S hq => by
    subst ev et
    refine ba_call (by omega) (by omega) fun h' hb ho => ?_
    have X := ExE.fresh S (o := baO #[]) rfl
    have Y := ExE.turn (X.st S) setk_self hb ho
    rw [setk_setk] at Y
    exact hq g' _ _ h' s.toks (X.trans Y) ⟨_, S.none_size.2, rfl, by simp⟩) hst hpl
end
end Mine
end
/-! M18 -/
section
open PySem PySem.W PyProof.Rows PySem.Calls
open Sem (wp)
namespace Mine
section
variable {prog : Program} {w : World} {A : Around} {env : Env} {g k : Bs} {m : Mp}
theorem E1.baSet {x : Str} {np pos' pos : Pos} {i value : Expr} {Y : Addr} {b : Array UInt8} {n : Nat} {v : Int} (hx : EP prog w A env g k m (.Name x np) (isV (.ref Y))) (hY : k Y = some (baO b)) (hv : EP prog w A env g k m value (isI v)) (hi : EP prog w A env g k m i (isI (n : Int)))
    (hn : n < b.size) (hv0 : 0 ≤ v) (hv1 : v < 256) (hz : b.size ≤ 16777216) (hs : swapsWith value (some (.Subscript (.Name x np) i pos')) pos.line env = pure false := by rfl) :
    E1 prog w A env g k m (.Assign [.Subscript (.Name x np) i pos'] value pos) (Nx fun g' k' m' => g' = g ∧ m' = m ∧ k' = setk k Y (baO (b.setIfInBounds n v.toNat.toUInt8))) := fun s Q S hq =>
  wpAny_Assign_Subscript (hv s _ S fun vv h₁ tk₁ l₁ ⟨t₁, e₁⟩ => hx ⟨h₁, s.gens, s.drawn, tk₁, s.os⟩ _ (S.leH l₁) fun ov h₂ tk₂ l₂ e₂ => hi ⟨h₂, s.gens, s.drawn, tk₂, s.os⟩ _ ((S.leH l₁).leH l₂) fun iv h₃ tk₃ l₃ ⟨t₃, e₃⟩ => by
    have e₂' : ov = .ref Y := e₂
    subst e₁ e₂' e₃
    have S₃ := ((S.leH l₁).leH l₂).leH l₃
    refine ba_setItem (s := ⟨h₃, s.gens, s.drawn, tk₃, s.os⟩) (S₃.lek _ _ hY) hn hv0 hv1 hz fun h₄ hb ho => ?_
    exact hq .next g _ m h₄ tk₃ ((Ext.grow S (.leH S.leg ((l₁.trans l₂).trans l₃))).trans (.turn S₃ hY hb ho) (ns_some S.ns) S.offk S.offg) ⟨rfl, rfl, rfl, rfl⟩) hs
theorem EP.bytesOf {np pos : Pos} {e : Expr} {Y : Addr} {b : Array UInt8} (hf : EP prog w A env g k m (.Name "bytes" np) (isV (.type "bytes"))) (he : EP prog w A env g k m e (isV (.ref Y))) (hY : k Y = some (baO b)) (hz : b.size ≤ 16777216)
    (hst : starEach [e] env = (false, eval e env) :: starEach [] env := by rfl) (hpl : ((backTo pos (starEach [e] env)).any (·.1) || (backToKw pos (keywordEach [] env)).any (·.1.isNone)) = false := by rfl) :
    EP prog w A env g k m (.Call (.Name "bytes" np) [e] [] pos) (isY b) := .fn1 hf trivial he (fun v s Q e lg lk hq => by
      have e' : v = .ref Y := e
      subst e'
      exact call_bytes_ba (lk _ _ hY) hz fun t k => hq _ _ ⟨_, rfl⟩) hst hpl
end
theorem small_of {a b c : Int} (ha : 0 ≤ a) (ha' : a < 2 ^ 40) (hb : 0 ≤ b) (hb' : b < 2 ^ 40) (hc : 0 < c) (hc' : c < 2 ^ 40) {n : Nat} (hn : Builtin.Range.rangeSize a b c = (n : Int)) (hn' : n < 2 ^ 20) : Builtin.Range.small a b c = true := by
  unfold Builtin.Range.small
  rw [hn]
  simp only [Builtin.Range.rangeFitsLong, Bool.and_eq_true, Bool.or_eq_true, decide_eq_true_eq, beq_iff_eq]
  refine ⟨by omega, .inr ?_⟩
  rw [if_pos hc]
  simp only [Bool.and_eq_true, decide_eq_true_eq]
  omega
theorem rangeSize_steps {W n : Nat} (hW : 0 < W) : Builtin.Range.rangeSize 0 ((n * W : Nat) : Int) (W : Int) = (n : Int) := by
  unfold Builtin.Range.rangeSize
  rw [if_pos (by omega)]
  cases n with
  | zero => simp
  | succ n =>
    have hpos : 0 < (n + 1) * W := Nat.mul_pos (Nat.succ_pos _) hW
    rw [if_pos (by omega)]
    have e : (((n + 1) * W : Nat) : Int) - 0 - 1 = ((n * W + (W - 1) : Nat) : Int) := by
      have : (n + 1) * W = n * W + W := Nat.succ_mul n W
      omega
    rw [e]
    have e2 : (n * W + (W - 1)) / W = n := by
      rw [Nat.mul_comm, Nat.mul_add_div hW, Nat.div_eq_of_lt (by omega)]; simp
    have : ((n * W + (W - 1) : Nat) : Int) / (W : Int) = (((n * W + (W - 1)) / W : Nat) : Int) := by simp
    rw [this, e2]; simp
theorem place_inj {W q r q' r' : Nat} (hr : r < W) (hr' : r' < W) (h : q * W + r = q' * W + r') : q = q' ∧ r = r' := by
  have hW : 0 < W := by omega
  have h1 : (q * W + r) / W = q := by rw [Nat.mul_comm, Nat.mul_add_div hW, Nat.div_eq_of_lt hr]; simp
  have h2 : (q' * W + r') / W = q' := by rw [Nat.mul_comm, Nat.mul_add_div hW, Nat.div_eq_of_lt hr']; simp
  have h3 : q = q' := by rw [← h1, ← h2, h]
  subst h3
  exact ⟨rfl, by omega⟩
end Mine
end
/-! M19 -/
section
open PySem PySem.W PyProof.Rows PySem.Calls
namespace Mine
noncomputable def getI (ds : List (Str × Int)) (x : Str) (dflt : Int) : Int := ((ds.find? fun p => p.1 = x).map (·.2)).getD dflt
noncomputable def setI (ds : List (Str × Int)) (x : Str) (v : Int) : List (Str × Int) := if ds.any (fun p => p.1 = x) then ds.map (fun p => if p.1 = x then (p.1, v) else p) else ds ++ [(x, v)]
theorem IntV.get {x : Str} {dflt : Int} : ∀ {kvs : List (Str × Value)} {ds : List (Str × Int)}, IntV kvs ds → ∀ {dv : Value}, isI dflt dv → isI (getI ds x dflt) ((valueAt kvs x).getD dv)
  | [], [], _, dv, h => h
  | a :: r, b :: q, ⟨h1, ⟨t, h2⟩, h3⟩, dv, h => by
    have ih := IntV.get (x := x) h3 h
    unfold valueAt getI at *
    rw [List.find?_cons, List.find?_cons]
    by_cases e : b.1 = x
    · have ea : a.1 = x := h1.trans e
      simp only [ea, e, decide_true, Option.map_some, Option.getD_some]
      exact ⟨t, h2⟩
    · have ea : a.1 ≠ x := fun q => e (h1.symm.trans q)
      simp only [ea, e, decide_false]
      exact ih
  | [], _ :: _, h, _, _ => h.elim
  | _ :: _, [], h, _, _ => h.elim
theorem IntV.find {x : Str} : ∀ {kvs : List (Str × Value)} {ds : List (Str × Int)}, IntV kvs ds → (valueAt kvs x).isSome = (ds.find? fun p => p.1 = x).isSome
  | [], [], _ => rfl
  | a :: r, b :: q, ⟨h1, _, h3⟩ => by
    have ih := IntV.find (x := x) h3
    unfold valueAt at *
    rw [List.find?_cons, List.find?_cons, h1]
    by_cases e : b.1 = x
    · simp [e]
    · simp only [e, decide_false]; exact ih
  | [], _ :: _, h => h.elim
  | _ :: _, [], h => h.elim
theorem IntV.any {x : Str} : ∀ {kvs : List (Str × Value)} {ds : List (Str × Int)}, IntV kvs ds → (kvs.any fun kv => kv.1 = x) = ds.any fun p => p.1 = x
  | [], [], _ => rfl
  | a :: r, b :: q, ⟨h1, _, h3⟩ => by rw [List.any_cons, List.any_cons, IntV.any h3, h1]
  | [], _ :: _, h => h.elim
  | _ :: _, [], h => h.elim
theorem IntV.map {x : Str} {v : Int} {vv : Value} (hv : isI v vv) : ∀ {kvs : List (Str × Value)} {ds : List (Str × Int)}, IntV kvs ds → IntV (kvs.map fun kv => if kv.1 = x then (kv.1, vv) else kv) (ds.map fun p => if p.1 = x then (p.1, v) else p)
  | [], [], _ => trivial
  | a :: r, b :: q, ⟨h1, h2, h3⟩ => by
    refine ⟨?_, ?_, IntV.map hv h3⟩
    · show (if a.1 = x then (a.1, vv) else a).1 = (if b.1 = x then (b.1, v) else b).1
      rw [h1]; split <;> simp_all
    · show ∃ t, (if a.1 = x then (a.1, vv) else a).2 = .int (if b.1 = x then (b.1, v) else b).2 t
      rw [h1]
      split
      · exact hv
      · exact h2
  | [], _ :: _, h => h.elim
  | _ :: _, [], h => h.elim
theorem IntV.append {x : Str} {v : Int} {vv : Value} (hv : isI v vv) : ∀ {kvs : List (Str × Value)} {ds : List (Str × Int)}, IntV kvs ds → IntV (kvs ++ [(x, vv)]) (ds ++ [(x, v)])
  | [], [], _ => ⟨rfl, hv, trivial⟩
  | a :: r, b :: q, ⟨h1, h2, h3⟩ => ⟨h1, h2, IntV.append hv h3⟩
  | [], _ :: _, h => h.elim
  | _ :: _, [], h => h.elim
theorem IntV.stored {x : Str} {v : Int} {vv : Value} {kvs : List (Str × Value)} {ds : List (Str × Int)} (h : IntV kvs ds) (hv : isI v vv) : IntV (PySem.stored kvs x vv) (setI ds x v) := by
  unfold PySem.stored setI
  rw [h.any]
  split
  · exact h.map hv
  · exact h.append hv
theorem IntV.length : ∀ {kvs : List (Str × Value)} {ds : List (Str × Int)}, IntV kvs ds → kvs.length = ds.length
  | [], [], _ => rfl
  | a :: r, b :: q, ⟨_, _, h3⟩ => by rw [List.length_cons, List.length_cons, IntV.length h3]
  | [], _ :: _, h => h.elim
  | _ :: _, [], h => h.elim
theorem IntV.at : ∀ {kvs : List (Str × Value)} {ds : List (Str × Int)}, IntV kvs ds → ∀ {i : Nat} {p : Str × Int}, ds[i]? = some p → ∃ t, kvs[i]? = some (p.1, .int p.2 t)
  | [], [], _, i, p, e => by cases i <;> cases e
  | a :: r, b :: q, ⟨h1, ⟨t, h2⟩, h3⟩, 0, p, e => by cases e; exact ⟨t, by rw [List.getElem?_cons_zero]; obtain ⟨a1, a2⟩ := a; cases h1; cases h2; rfl⟩
  | a :: r, b :: q, ⟨h1, h2, h3⟩, i + 1, p, e => by rw [List.getElem?_cons_succ] at e ⊢; exact IntV.at h3 e
  | [], _ :: _, h, _, _, _ => h.elim
  | _ :: _, [], h, _, _, _ => h.elim
/-- a dict of strs and ints -/
noncomputable def DK (prog : Program) (w : World) (o : Obj) (ds : List (Str × Int)) : Prop := ∃ kvs, IsDct prog w o kvs ∧ IntV kvs ds
theorem IsDct.dictOf {prog : Program} {w : World} {o : Obj} {kvs : List (Str × Value)} (h : IsDct prog w o kvs) {a : Addr} {hp : Heap} (e : hp.get? a = some o) : hp.DictOf (PySem.strKind prog w) a kvs := by
  obtain ⟨es, ep, h1, h2, h3, h4, h5⟩ := h
  exact ⟨o, es, ep, e, h1, h2, h3, h4, h5⟩
theorem DK.nil {prog : Program} {w : World} : DK prog w { cls := .type "dict", data := .dict #[] } [] := ⟨[], ⟨#[], 0, ⟨rfl, rfl, rfl⟩, rfl, fun _ he => by simp at he, Pairs.nil, List.nodup_nil⟩, trivial⟩
section
variable {prog : Program} {w : World} {A : Around} {env : Env} {g k : Bs} {m : Mp}
theorem EP.dget {o e₁ e₂ : Expr} {apos pos : Pos} {a : Addr} {ob : Obj} {ds : List (Str × Int)} {x : Str} {dflt : Int} (hx : EP prog w A env g k m o (isV (.ref a))) (ho : k a = some ob ∨ g a = some ob) (hd : DK prog w ob ds) (hS : (a == sysModules) = false) (h₁ : EP prog w A env g k m e₁ (isS x)) (h₂ : EP prog w A env g k m e₂ (isI dflt))
    (hb : attributeBase o "get" env (eval o env) = eval o env := by rfl)
    (hfew : (((backTo pos (starEach [e₁, e₂] env)).all (fun x => !x.1) && (backToKw pos (keywordEach [] env)).all (fun x => x.1.isSome)) && decide (([e₁, e₂] : List Expr).length + ([] : List Keyword).length + (if ([] : List Keyword).isEmpty = true then 0 else 1) < 30)) = true := by rfl)
    (hl : (apos.endLine == pos.line) = true := by rfl) (hst : starEach [e₁, e₂] env = (false, eval e₁ env) :: starEach [e₂] env := by rfl) (hst' : starEach [e₂] env = (false, eval e₂ env) :: starEach [] env := by rfl) :
    EP prog w A env g k m (.Call (.Attribute o "get" apos) [e₁, e₂] [] pos) (isI (getI ds x dflt)) := fun s Q S hq => by
  refine wpAny_Call_method_late hb hfew hl rfl (hx s _ S fun ov h' tk l r => ?_)
  have r' : ov = .ref a := r
  subst r'
  have S' := S.leH l
  obtain ⟨kvs, hk, hi⟩ := hd
  have hD : h'.DictOf (PySem.strKind prog w) a kvs := hk.dictOf (ho.elim (S'.lek a ob) (S'.leg a ob))
  refine ⟨"dict", "dict.get", F.plainAttrs_dict, F.slot_dict_get, F.type_dict_get, hD.mapOf.typeIs (s := ⟨h', s.gens, s.drawn, tk, s.os⟩), hD.mapOf.noDict, ?_⟩
  rw [hst, hst']
  refine wpAny_dict_get2 (K := Str) (knd := PySem.strKind prog w) hS (h₁ ⟨h', s.gens, s.drawn, tk, s.os⟩ _ S' fun v₁ h₂' tk₂ l₂ ⟨t₁, e₁'⟩ => h₂ ⟨h₂', s.gens, s.drawn, tk₂, s.os⟩ _ (S'.leH l₂) fun v₂ h₃ tk₃ l₃ r₂ => ?_)
  subst e₁'
  have hD3 : h₃.DictOf (PySem.strKind prog w) a kvs := hk.dictOf (ho.elim (((S'.leH l₂).leH l₃).lek a ob) (((S'.leH l₂).leH l₃).leg a ob))
  exact ⟨x, _, strKind_is prog w x t₁, hD3.mapOf, hq _ _ _ ((l.trans l₂).trans l₃) (hi.get r₂)⟩
theorem E1.dset {o i value : Expr} {pos' pos : Pos} {a : Addr} {ob : Obj} {ds : List (Str × Int)} {x : Str} {v : Int} (hx : EP prog w A env g k m o (isV (.ref a))) (ho : k a = some ob) (hd : DK prog w ob ds) (hz : ds.length ≤ sizeLine) (hv : EP prog w A env g k m value (isI v)) (hi : EP prog w A env g k m i (isS x))
    (hs : swapsWith value (some (.Subscript o i pos')) pos.line env = pure false := by rfl) :
    E1 prog w A env g k m (.Assign [.Subscript o i pos'] value pos) (Nx fun g' k' m' => g' = g ∧ m' = m ∧ ∃ ob', DK prog w ob' (setI ds x v) ∧ k' = setk k a ob') := fun s Q S hq =>
  wpAny_Assign_Subscript (hv s _ S fun vv h₁ tk₁ l₁ r₁ => hx ⟨h₁, s.gens, s.drawn, tk₁, s.os⟩ _ (S.leH l₁) fun ov h₂ tk₂ l₂ e₂ => hi ⟨h₂, s.gens, s.drawn, tk₂, s.os⟩ _ ((S.leH l₁).leH l₂) fun iv h₃ tk₃ l₃ ⟨t₃, e₃⟩ => by
    have e₂' : ov = .ref a := e₂
    subst e₂' e₃
    have S₃ := ((S.leH l₁).leH l₂).leH l₃
    obtain ⟨kvs, hk, hiv⟩ := hd
    refine wpAny_setItem_pairs (s := ⟨h₃, s.gens, s.drawn, tk₃, s.os⟩) (strKind_is prog w x t₃) (hk.dictOf (S₃.lek a ob ho)) (fun h₄ hD hb => ?_) (by rw [hiv.length]; exact hz)
    obtain ⟨ob', es, ep, e4, q1, q2, q3, q4, q5⟩ := hD
    exact hq .next g _ m h₄ _ ((Ext.grow S (.leH S.leg ((l₁.trans l₂).trans l₃))).trans (.turn S₃ ho hb e4) (ns_some S.ns) S.offk S.offg) ⟨rfl, rfl, rfl, ob', ⟨_, ⟨es, ep, q1, q2, q3, q4, q5⟩, hiv.stored r₁⟩, rfl⟩) hs
theorem EP.ditem {v i : Expr} {pos : Pos} {ds : List (Str × Int)} {x : Str} {n : Int} (hv : EP prog w A env g k m v fun o => Rp prog w g o (.dct ds)) (hi : EP prog w A env g k m i (isS x)) (hd : (ds.find? fun p => p.1 = x).isSome = true)
    (hs : ∀ o x, subscripted i false o x = operate [o, x] (getItem o x) := by intro _ _; with_unfolding_all rfl) :
    EP prog w A env g k m (.Subscript v i pos) (isI (getI ds x 0)) :=
  .sub' hv hi fun o y s Q ro ⟨t, ex⟩ S hq => by
    subst ex
    cases ro with
    | @dct a ob kvs _ e hk hiv =>
      have hD := hk.dictOf (S.leg _ _ e)
      have hv0 : isI (getI ds x 0) ((valueAt kvs x).getD (.int 0 0)) := hiv.get ⟨0, rfl⟩
      cases hq' : valueAt kvs x with
      | none =>
        exfalso
        have := hiv.find (x := x)
        rw [hq', hd] at this
        cases this
      | some vv =>
        rw [hq'] at hv0
        exact tail_any hD.typeIs slot_dict_getitem.lookup (wpAny_getItem_of (strKind_is prog w x t) hD.mapOf hq' (hq _ _ hv0)) (hs _ _)
end
end Mine
end
/-! M20 -/
section
open PySem PySem.W PyProof.Rows PySem.Calls
namespace Mine
section
variable {prog : Program} {w : World} {A : Around} {env : Env} {g k : Bs} {m : Mp}
theorem EI.items {o : Expr} {elts : List Expr} {kk : Nat} {apos pos tp : Pos} {ds : List (Str × Int)} (hh : A.handled = .none) (ho : EP prog w A env g k m o (fun v => Rp prog w g v (.dct ds) ∧ v ≠ .ref sysModules))
    (hb : attributeBase o "items" env (eval o env) = eval o env := by rfl) (hl : (apos.endLine == pos.line) = true := by rfl) :
    EI prog w A env g k m (.Call (.Attribute o "items" apos) [] [] pos) (.Tuple elts kk tp) (ds.map fun p => .tup [.str p.1, .int p.2]) := fun s Q S hq => by
  refine wpAny_Call_method (T := "dict") (id := "dict.items") hb rfl hl F.plainAttrs_dict F.slot_dict_items F.type_dict_items (ho s _ S fun ov h' tk l r => ?_)
  obtain ⟨r, hne⟩ := r
  cases r with
  | @dct a ob kvs _ e hk hiv =>
    have S' := S.leH l
    have hS : (a == sysModules) = false := by
      cases q : a == sysModules with
      | false => rfl
      | true => exact absurd (congrArg Value.ref (eq_of_beq q)) hne
    have hD : h'.DictOf (PySem.strKind prog w) a kvs := hk.dictOf (S'.leg _ _ e)
    refine ⟨hD.typeIs (s := ⟨h', s.gens, s.drawn, tk, s.os⟩), hD.mapOf.noDict, ?_⟩
    show wpAny _ _ (callWith pos (.builtin "dict.items") [.ref a] [] []) _ _ _
    refine method_meetsIn F.slot_dict_items F.entry_dict_items rfl (PySem.evalArgs_none ⟨rfl, hD.typeIs (s := ⟨h', s.gens, s.drawn, tk, s.os⟩), F.args_dict_items_1 _, _, meets_dict_items (PySem.strKind prog w) a hS, ⟨kvs, hD⟩, ?_⟩)
    obtain ⟨es, ep, q1, q2, q3, q4, q5⟩ := hk
    have at' : ∀ h : Heap, h.get? a = some ob → h.DictAt (PySem.strKind prog w) a kvs ep := fun h e => ⟨ob, es, e, q1, q2, q3, q4, q5⟩
    have ea : h'.get? a = some ob := S'.leg _ _ e
    refine wpAny_pyIter_items (knd := PySem.strKind prog w) (d := a) (kvs := kvs) (ep := ep) ⟨_, Heap.get?_push_size _ rfl, rfl, rfl⟩ (at' _ (Heap.get?_push_of_some _ ea)) ?_
    have hz : (h'.push { cls := .type "dict_items", data := .fields #[.ref a] }).objs.size = h'.objs.size + 1 := Heap.size_push ..
    generalize hH : h'.push { cls := .type "dict_items", data := .fields #[.ref a] } = H at *
    have up : LeH h' H := hH ▸ LeH.push _
    have nI : H.get? H.objs.size = .none := Heap.get?_none_of_le (Nat.le_refl _)
    have gI : g H.objs.size = .none := by
      cases q : g H.objs.size with
      | none => rfl
      | some o' => have := up _ _ (S'.leg _ _ q); rw [nI] at this; cases this
    have sI : s.heap.get? H.objs.size = .none := by
      cases q : s.heap.get? H.objs.size with
      | none => rfl
      | some o' => have := up _ _ (l _ _ q); rw [nI] at this; cases this
    have aI : a ≠ H.objs.size := Nat.ne_of_lt (Heap.lt_size (up _ _ ea))
    refine hq g H.objs.size [H.objs.size, a] [H.objs.size] (fun i h => (∃ ok ov, IsItemIter h H.objs.size a i kvs.length ep ok ov) ∧ h.get? a = some ob) _ _ (((Gr.leH S.leg l).trans (.leH S'.leg up)).trans (.leH (S'.leg.trans up) (.push _))) ?_
    refine ⟨?_, ?_, ?_, ?_, ?_, ?_, ?_, ?_, ?_⟩
    · rintro i it s1 Q1 hi hg ⟨⟨ok, ov, hit⟩, ea1⟩ hq1
      rw [List.getElem?_map] at hi
      obtain ⟨p, hp, rfl⟩ := Option.map_eq_some_iff.mp hi
      obtain ⟨t, hkv⟩ := hiv.at hp
      refine wpAny_pyNext_items_item (knd := PySem.strKind prog w) hit (at' _ ea1) hkv fun key h2 hkey hout htup hsz hk2 => ?_
      obtain ⟨tk', rfl⟩ := Value.isStrOf_shape (show Value.isStrOf p.1 key = true from hkey)
      refine wpAny_letOwnedTupleGo_items (s := ⟨h2, s1.gens, s1.drawn, s1.toks, s1.os⟩) hout fun h3 hin hs3 => ?_
      have hit1 : H.objs.size < s1.heap.objs.size := Heap.lt_size hit
      have aI1 : a ≠ H.objs.size := aI
      refine hq1 _ h3 s1.toks ⟨s1.heap.objs.size, [.str p.1 tk', .int p.2 t], rfl, ⟨_, (hs3.2 _ (Nat.ne_of_gt hit1)).trans htup, rfl, 0, rfl⟩, .cons (.str _ _) (.cons (.int _ _) .nil)⟩ ⟨⟨_, _, hin⟩, (hs3.2 a aI1).trans (hk2 a ob aI1 ea1)⟩ fun b o hb e => ?_
      have hb' : b ≠ H.objs.size := fun q => hb (by rw [q]; exact .head _)
      exact (hs3.2 b hb').trans (hk2 b o hb' e)
    · rintro s1 Q1 ⟨⟨ok, ov, hit⟩, ea1⟩ hq1
      rw [List.length_map] at hit
      have hn : kvs[ds.length]? = .none := by rw [List.getElem?_eq_none_iff, hiv.length]; exact Nat.le_refl _
      exact wpAny_pyNext_items_end (knd := PySem.strKind prog w) hh hit (at' _ ea1) hn fun h2 hb => hq1 h2 s1.toks fun b o hbn e => hb b o (fun q => hbn (by rw [q]; exact .head _)) e
    · rintro s1 Q1 ⟨⟨ok, ov, hit⟩, ea1⟩ hq1
      have hT : s1.TypeIs (.ref H.objs.size) "dict_itemiterator" := ⟨_, hit, rfl⟩
      refine wpAny_pyIter_slot hT F.slot_dict_itemiterator_iter (wpAny_call_entry F.slot_dict_itemiterator_iter hT kcp_entry ?_ (F.args_dict_itemiterator_iter_1 _))
      show wpAny _ _ (ret (.ref H.objs.size)) _ _ _
      exact wpAny_pure ⟨_, rfl, "dict_itemiterator", _, hT, F.slot_dict_itemiterator_next.lookup, hq1⟩
    · rintro i h1 h2 ⟨⟨ok, ov, hit⟩, ea1⟩ hk
      exact ⟨⟨ok, ov, hk _ (.head _) _ hit⟩, hk a (.tail _ (.head _)) _ ea1⟩
    · exact ⟨⟨_, _, Heap.get?_push_size _ rfl⟩, Heap.get?_push_of_some _ (up _ _ ea)⟩
    · intro b hb; rw [List.mem_singleton.mp hb]; exact sI
    · intro b hb; rw [List.mem_singleton.mp hb]; exact gI
    · intro b hb
      rcases List.mem_cons.mp hb with rfl | hb
      · exact .inl (.head _)
      · rw [List.mem_singleton.mp hb]; exact .inr ⟨_, e⟩
    · rintro i h1 ⟨⟨ok, ov, hit⟩, ea1⟩ b hb
      rw [List.mem_singleton.mp hb]; exact ⟨_, hit⟩
theorem RpL.strs {g : Bs} : ∀ {vs : List Value} {xs : List Str}, RpL prog w g vs (xs.map .str) → StrsAre vs xs
  | _, [], r => by cases r; exact .nil
  | _, n :: ns, r => by
    cases r with
    | cons a b => cases a with | str i t => exact .cons n t (RpL.strs b)
/-- ''.join of a list -/
theorem EV.joinS {e : Expr} {n : Nat} {ps apos pos : Pos} {xs : List Str} (hz : (xs.map (·.length)).sum ≤ 100000) (he : EV prog w A env g k m e fun g' v => Rp prog w g' v (.lst (xs.map .str)))
    (hb : attributeBase (.Constant (.str "") n ps) "join" env (eval (.Constant (.str "") n ps) env) = eval (.Constant (.str "") n ps) env := by rfl)
    (hfew : (((backTo pos (starEach [e] env)).all (fun x => !x.1) && (backToKw pos (keywordEach [] env)).all (fun x => x.1.isSome)) && decide (([e] : List Expr).length + ([] : List Keyword).length + (if ([] : List Keyword).isEmpty = true then 0 else 1) < 30)) = true := by rfl)
    (hl : (apos.endLine == pos.line) = true := by rfl) (hst : starEach [e] env = (false, eval e env) :: starEach [] env := by rfl) (hpl : (backTo pos (starEach [e] env)).any (·.1) = false := by rfl) :
    EV prog w A env g k m (.Call (.Attribute (.Constant (.str "") n ps) "join" apos) [e] [] pos) fun _ v => isS (Txt.join "" xs) v := by
  refine EV.meth (T := "str") (id := "str.join") (Ro := isS "") (RL := fun g' vs => ∃ v, vs = [v] ∧ Rp prog w g' v (.lst (xs.map .str))) EP.str ?_ F.plainAttrs_str F.slot_str_join F.type_str_join (.cons he (fun g' v s r => .nil ⟨v, rfl, r⟩) hst) ?_ hb hfew hl hst hpl
  · rintro ov s ⟨t, rfl⟩ _ _
    exact ⟨rfl, fun _ e => nomatch e⟩
  · rintro ov g' vs ⟨t, rfl⟩ _ ⟨v, rfl, r⟩ s Q S hq
    cases r with
    | @lst a vs n _ e rl =>
      exact join_list (items := vs.toArray) ⟨_, S.leg _ _ e, rfl, _, rfl⟩ rl.strs (by show _ + xs.length * 0 ≤ _; omega) fun t' k' => hq g' _ s.heap k' (.refl S.leg) ⟨_, rfl⟩
end
end Mine
end
/-! P1 -/
section
open PySem PySem.W PyProof.Rows PySem.Calls
namespace Mine
noncomputable def lastAt (draw : Int) : Nat → Int
  | 0 => -1
  | i + 1 => lastAt draw i + (1 + (draw.fdiv (5 ^ i)).fmod 5)
noncomputable def lettersD (draw : Int) (n : Nat) : List D := (List.range n).map fun i => .int (lastAt draw (i + 1))
theorem letters_ok {prog : Program} {w : World} {g : Bs} (B : Base w g) {draw : Int} {n : Nat} (hn : n ≤ 4) {vd vm : Value} (hd : isI draw vd) (hm : isI n vm) :
    FS prog w 1 71 [vd, vm] [] g (fun g' v => Rp prog w g' v (.lst (lettersD draw n))) := by
  refine FS.body (binds := [("draw", vd), ("many", vm)]) (B.at rfl) (by rfl) (B.code rfl) B.lim (BD.of_eq (by rfl)) (by rfl) (by decide) ?_
  intro A L k hh hdp hcells
  refine EX.then (E1.pairS hh EM.nilList (fun _ _ _ _ _ => EP.neg EP.int)) fun g₁ k₁ m₁ s₁ r => ?_
  obtain ⟨v₁, v₂, ⟨rfl, a, ga, ka, rfl, rfl⟩, ⟨t2, rfl⟩, rfl⟩ := r
  refine EX.for (fun i g' k' m' => m' "draw" = some vd ∧ m' "letters" = some (.ref a) ∧ (∃ v, m' "last" = some v ∧ isI (lastAt draw i) v) ∧ ∃ vs n, k' a = some (lstO vs n) ∧ RpL prog w g' vs ((List.range i).map fun i => .int (lastAt draw (i + 1))))
    (EI.range1 hh B (by omega) (EP.bi B) (EP.loc (v := vm) rfl hm)) (fun g' s => ⟨rfl, rfl, ⟨_, rfl, _, rfl⟩, [], 0, setk_self, .nil⟩) ?_ ?_
  · rintro i it g' k' m' s hi ⟨e1, e2, ⟨v, e3, ev⟩, vs, n', e4, hr⟩
    obtain ⟨hlt, rfl⟩ := rng_get hi
    refine EA.mono EA.name ?_
    rintro g2 k2 m2 s2 ⟨rfl, rfl, vt, rt, rfl⟩
    have hvt : isI (i : Int) vt := by have := rt.isI; simpa using this
    have h5 : (0 : Int) < 5 ^ i := Int.pow_pos (by decide)
    have h5' : ((5 : Int) ^ i).natAbs < 1073741824 := by
      have : i < 4 := by omega
      rcases i with _ | _ | _ | _ | _ <;> first | omega | simp
    refine EX.then (E1.aug (v₀ := v) (R := isI (1 + (draw.fdiv (5 ^ i)).fmod 5)) (R' := isI (lastAt draw (i + 1))) ((upd_ne (by decide)).trans e3)
      (EP.add EP.int (EP.fmod (EP.fdiv (EP.loc (v := vd) ((upd_ne (by decide)).trans e1) hd) (EP.pow (b := (i : Int)) EP.int (EP.loc (v := vt) upd_self hvt) (by omega) (by
        have : (Builtin.Int.intBits 5 : Int) = 3 := by rfl
        rw [this]; omega)) (by simpa using Int.ne_of_gt h5) (PyProof.noPylong_small (by simpa using h5'))) EP.int (by decide)))
      ?_) ?_
    · rintro v' s' Q ⟨t', rfl⟩ hq
      obtain ⟨t, rfl⟩ := ev
      exact PyProof.Rows.iadd_int (hq _ _ ⟨_, rfl⟩)
    · rintro g3 k3 m3 s3 ⟨rfl, rfl, u, hu, rfl⟩
      refine EX.then (E1.append (Y := a) (vs := vs) (n := n') (R := fun _ => isI (lastAt draw (i + 1))) (EP.loc ((upd_ne (by decide)).trans ((upd_ne (by decide)).trans e2)) rfl) e4 (by rw [hr.length]; simp; unfold sizeLine; omega) (EP.loc (v := u) upd_self hu).toV) ?_
      rintro g4 k4 m4 s4 ⟨rfl, v4, hv4, rfl⟩
      refine EX.nil ⟨rfl, (upd_ne (by decide)).trans ((upd_ne (by decide)).trans e1), (upd_ne (by decide)).trans ((upd_ne (by decide)).trans e2), ⟨u, upd_self, hu⟩, _, _, setk_self, ?_⟩
      rw [List.range_succ, List.map_append]
      exact RpL.append (.cons (rpI hv4) .nil) (hr.mono (s2.trans (s3.trans s4)))
  · rintro g' k' m' s ⟨e1, e2, e3, vs, n', e4, hr⟩
    rw [rng_len] at hr
    refine EX.ret (R₁ := fun _ v => v = .ref a) (EP.toV (EP.loc e2 rfl)) fun g3 v s3 dis hv => ?_
    subst hv
    exact .home e4 (hr.mono s3) dis
end Mine
end
/-! P2 -/
section
open PySem PySem.W PyProof.Rows PySem.Calls
namespace Mine
noncomputable def wordStep (letters : List Int) (p : Int × Int) : List (Int × Int) := (List.range letters.length).zipWith (fun (c : Nat) l => (16 * p.1 + l, p.2 + (c : Int))) letters
noncomputable def wordsL (letters : List Int) : Nat → List (Int × Int)
  | 0 => [(0, 0)]
  | n + 1 => ((wordsL letters n).map (wordStep letters)).flatten
noncomputable def pairD (p : Int × Int) : D := .tup [.int p.1, .int p.2]
noncomputable def wordsD (letters : List Int) (n : Nat) : D := .lst ((wordsL letters n).map pairD)
theorem wordsL_bound {letters : List Int} (hb : ∀ l ∈ letters, 0 ≤ l ∧ l < 16) : ∀ {n : Nat} {p : Int × Int}, p ∈ wordsL letters n → 0 ≤ p.1 ∧ p.1 < 16 ^ n
  | 0, p, h => by rw [wordsL, List.mem_singleton] at h; subst h; decide
  | n + 1, p, h => by
    rw [wordsL, List.mem_flatten] at h
    obtain ⟨l, hl, hp⟩ := h
    obtain ⟨q, hq, rfl⟩ := List.mem_map.mp hl
    have ih := wordsL_bound hb hq
    unfold wordStep at hp
    obtain ⟨j, hj⟩ := List.getElem?_of_mem hp
    rw [List.getElem?_zipWith] at hj
    split at hj
    · rename_i c l' hc hl'
      cases hj
      have := hb l' (List.mem_of_getElem? hl')
      rw [Int.pow_succ]
      omega
    · cases hj
theorem wordsL_len {letters : List Int} : ∀ {n : Nat}, (wordsL letters n).length = letters.length ^ n
  | 0 => rfl
  | n + 1 => by
    rw [wordsL, List.length_flatten, List.map_map]
    have : (List.map (List.length ∘ wordStep letters) (wordsL letters n)) = List.replicate (wordsL letters n).length letters.length := by
      rw [List.eq_replicate_iff]; refine ⟨by simp, fun b hb => ?_⟩
      obtain ⟨p, hp, rfl⟩ := List.mem_map.mp hb
      simp [wordStep]
    rw [this, List.sum_replicate_nat, wordsL_len, Nat.pow_succ]
theorem words_ok {prog : Program} {w : World} {g : Bs} (B : Base w g) {letters : List Int} (hb : ∀ l ∈ letters, 0 ≤ l ∧ l < 16) (hl : letters.length ≤ 3) {n : Nat} (hn : n ≤ 4) {vl vm : Value} (hd : Rp prog w g vl (.lst (letters.map .int))) (hm : isI n vm) :
    FS prog w 1 76 [vl, vm] [] g (fun g' v => Rp prog w g' v (wordsD letters n)) := by
  refine FS.body (binds := [("letters", vl), ("many", vm)]) (B.at rfl) (by rfl) (B.code rfl) B.lim (BD.of_eq (by rfl)) (by rfl) (by decide) ?_
  intro A L k hh hdp hcells
  obtain ⟨oc, kc, hoc⟩ := hcells "letters" (L + 1) rfl
  have hoc' : oc.data = .cell (some vl) := hoc
  refine EX.then (E1.set (EV.list (EL.rone (EV.tup (EL.rtwo (EV.I EP.int) fun _ _ => EV.I EP.int) fun _ _ r => r)) fun _ _ r => r)) fun g₁ k₁ m₁ s₁ r => ?_
  obtain ⟨rfl, v₁, r₁, rfl⟩ := r
  refine EX.for (fun i g' k' m' => k' = k₁ ∧ m' "many" = some vm ∧ ∃ v, m' "words" = some v ∧ Rp prog w g' v (wordsD letters i))
    (EI.range1 hh (B.mono s₁) (by omega) (EP.bi (B.mono s₁)) (EP.loc (v := vm) rfl hm)) (fun g' s => ⟨rfl, rfl, v₁, rfl, r₁.mono s⟩) ?_ ?_
  · rintro i it g' k' m' s hi ⟨rfl, e1, v, e2, hr⟩
    obtain ⟨hlt, rfl⟩ := rng_get hi
    refine EA.mono EA.name ?_
    rintro g2 k2 m2 s2 ⟨rfl, rfl, vt, rt, rfl⟩
    refine EX.then (CKM.set (CK.two (its := ((wordsL letters i).map pairD).map ik) (dss := (wordsL letters i).map fun p => (wordStep letters p).map pairD) ?_ ?_ ?_ ?_)) ?_
    · simp
    · have h1 : ((wordsL letters i).map fun p => (wordStep letters p).map pairD).flatten.length = (wordsL letters (i + 1)).length := by
        rw [wordsL, List.length_flatten, List.length_flatten, List.map_map, List.map_map]
        congr 1
        refine List.map_congr_left fun p _ => by simp
      rw [h1, wordsL_len]
      have : letters.length ^ (i + 1) ≤ 3 ^ 4 := Nat.le_trans (Nat.pow_le_pow_left hl _) (Nat.pow_le_pow_right (by decide) (by omega))
      exact Nat.le_trans this (by decide)
    · exact EI.list hh (EV.R (EP.loc (v := v) ((upd_ne (by decide)).trans e2) hr))
    · intro C j it ds g3 k3 m3 s3 sk hj hds
      rw [List.getElem?_map, List.getElem?_map] at hj
      rw [List.getElem?_map] at hds
      obtain ⟨d0, hd0, rfl⟩ := Option.map_eq_some_iff.mp hj
      obtain ⟨p, hp, rfl⟩ := Option.map_eq_some_iff.mp hd0
      rw [hp] at hds
      cases hds
      have pb := wordsL_bound hb (List.mem_of_getElem? hp)
      have pb' : p.1 < 16 ^ 4 := Int.lt_of_lt_of_le pb.2 (by
        have h2 : (16 ^ i : Nat) ≤ 16 ^ 4 := Nat.pow_le_pow_right (by decide) (by omega)
        exact_mod_cast h2)
      refine EA.mono (EA.names2 hh) ?_
      rintro g5 k5 m5 s5 ⟨rfl, rfl, vn, vh, rn, rh, rfl⟩
      refine ⟨rfl, enumL (letters.map .int), fun m => (∃ v, m "number" = some v ∧ isI p.1 v) ∧ ∃ v, m "height" = some v ∧ isI p.2 v, ?_, ⟨⟨vn, rfl, rn.isI⟩, vh, rfl, rh.isI⟩, ?_, ?_⟩
      · simp [enumL, wordStep]
      · refine EI.enum hh rfl (EP.bi (((B.mono s₁).mono s).mono s3)) (EV.R (EP.cell (c := L + 1) (o := oc) rfl (.inl (sk _ _ kc)) hoc' ?_))
        exact hd.mono ((s₁.trans s).trans s3)
      · intro q it2 d g6 k6 m6 s6 sk6 hq hd2 ⟨⟨v1, e3, i1⟩, v2, e4, i2⟩
        rw [List.getElem?_map] at hd2
        obtain ⟨pp, hpp, rfl⟩ := Option.map_eq_some_iff.mp hd2
        rw [enumL, List.getElem?_zipWith] at hq
        rw [wordStep, List.getElem?_zipWith] at hpp
        simp only [List.length_map, List.getElem?_map] at hq
        cases hc : (List.range letters.length)[q]? with
        | none => rw [hc] at hpp; cases hpp
        | some c =>
          cases hz : letters[q]? with
          | none => rw [hc, hz] at hpp; cases hpp
          | some z =>
            rw [hc, hz] at hpp hq
            cases hpp; cases hq
            refine EA.mono (EA.names2 hh) ?_
            rintro g7 k7 m7 s7 ⟨rfl, rfl, vc, vz, rc, rz, rfl⟩
            refine ⟨rfl, ⟨⟨v1, (upd_ne (by decide)).trans ((upd_ne (by decide)).trans e3), i1⟩, v2, (upd_ne (by decide)).trans ((upd_ne (by decide)).trans e4), i2⟩, ?_⟩
            refine EV.tup (EL.rtwo (EV.I ?_) fun _ _ => EV.I ?_) fun _ _ r => r
            · refine EP.add (EP.mul EP.int (EP.loc ((upd_ne (by decide)).trans ((upd_ne (by decide)).trans e3)) i1) ?_) (EP.loc upd_self rz.isI)
              exact .of_left (by decide)
            · exact EP.add (EP.loc ((upd_ne (by decide)).trans ((upd_ne (by decide)).trans e4)) i2) (EP.loc ((upd_ne (by decide)).trans upd_self) rc.isI)
    · rintro g3 k3 m3 s3 ⟨rfl, v3, hv3, rfl⟩
      refine EX.nil ⟨rfl, rfl, (upd_ne (by decide)).trans ((upd_ne (by decide)).trans e1), v3, upd_self, ?_⟩
      have e : ((wordsL letters i).map fun p => (wordStep letters p).map pairD).flatten = (wordsL letters (i + 1)).map pairD := by
        rw [wordsL, List.map_flatten, List.map_map]; rfl
      rw [e] at hv3
      exact hv3
  · rintro g' k' m' s ⟨rfl, e1, v, e2, hr⟩
    rw [rng_len] at hr
    refine EX.ret (R₁ := fun _ v' => v' = v) (EP.toV (EP.loc e2 rfl)) fun g3 v s3 dis hv => ?_
    subst hv
    exact (hr.mono s3).mono joinB_l
end Mine
end
/-! P3 -/
section
open PySem PySem.W PyProof.Rows PySem.Calls
namespace Mine
noncomputable def apF : Nat → Nat → List UInt8
  | 0, _ => []
  | f + 1, n => if n = 0 then [] else apF f (n / 16) ++ [UInt8.ofNat (65 + n % 16)]
noncomputable def apAll : List UInt8 := [65, 66, 67, 68, 69, 70, 71, 72, 73, 74, 75, 76, 77, 78, 79, 80]
theorem ap_pick : ∀ d, d < 16 → KBy.picked apAll.toArray (some (d : Nat)) (some ((d : Nat) + 1 : Int)) = [UInt8.ofNat (65 + d)].toArray := by decide
theorem ap_ok {prog : Program} {w : World} {g : Bs} (B : Base w g) {n f : Nat} (hf : f ≤ 1000) (hn : n < 16 ^ f) {v : Value} (hd : isI (n : Int) v) :
    FS prog w 1 57 [v] [] g (fun _ v' => isY (apF f n).toArray v') := by
  refine FS.body (binds := [("num", v)]) (B.at rfl) (by rfl) (B.code rfl) B.lim (BD.of_eq (by rfl)) (by rfl) (by decide) ?_
  intro A L k hh hdp hcells
  refine EX.then (E1.set (EP.toV EP.bytes)) fun g₁ k₁ m₁ s₁ r => ?_
  obtain ⟨rfl, v₁, r₁, rfl⟩ := r
  refine EX.then (E1.set (EP.toV EP.bytes)) fun g₂ k₂ m₂ s₂ r => ?_
  obtain ⟨rfl, v₂, r₂, rfl⟩ := r
  have B₂ := (B.mono s₁).mono s₂
  refine EX.then (E1.set (EP.toV (EP.toInt (EP.bi B₂) (EP.abs (EP.bi B₂) (EP.loc (v := v) rfl hd))))) fun g₃ k₃ m₃ s₃ r => ?_
  obtain ⟨rfl, v₃, r₃, rfl⟩ := r
  have r₃' : isI (n : Int) v₃ := by rwa [if_neg (by omega)] at r₃
  refine EX.while (fun c g' k' m' => ∃ (nn : Nat) (acc : List UInt8) (vn va : Value), m' "num" = some vn ∧ isI (nn : Int) vn ∧ m' "val" = some va ∧ isY acc.toArray va ∧ m' "AP" = some v₂ ∧ nn < 16 ^ c ∧ apF c nn ++ acc = apF f n ∧ acc.length + c ≤ f) f
    ⟨n, [], v₃, v₁, rfl, r₃', rfl, r₁, rfl, hn, by simp, by simp⟩ ?_
  rintro c g' k' m' s ⟨nn, acc, vn, va, e1, i1, e2, i2, e3, hlt, heq, hlen⟩
  refine ⟨(nn : Int) != 0, ET.int (EP.loc e1 i1), fun hc => ?_, fun hc => ?_⟩
  · have hnz : nn ≠ 0 := by intro e; subst e; simp at hc
    obtain ⟨c, rfl⟩ : ∃ c', c = c' + 1 := by
      cases c with
      | zero => simp at hlt; omega
      | succ c => exact ⟨c, rfl⟩
    refine EX.then (E1.unpack2 (d₁ := .int ((nn : Int).fdiv 16)) (d₂ := .int ((nn : Int).fmod 16)) hh (EV.divmod (by decide) (PyProof.noPylong_small (by decide)) (EP.bi ((B₂.mono s₃).mono s)) (EP.loc e1 i1) EP.int)) ?_
    rintro g₄ k₄ m₄ s₄ ⟨rfl, vq, vr, hq, hr, rfl⟩
    have hq' : isI ((nn / 16 : Nat) : Int) vq := by have := hq.isI; rwa [Int.fdiv_eq_ediv_of_nonneg _ (by decide)] at this
    have hr' : isI ((nn % 16 : Nat) : Int) vr := by have := hr.isI; rwa [Int.fmod_eq_emod_of_nonneg _ (by decide)] at this
    have hstep : apF (c + 1) nn = apF c (nn / 16) ++ [UInt8.ofNat (65 + nn % 16)] := by rw [apF, if_neg hnz]
    refine EX.then (E1.set (R := fun _ => isY (UInt8.ofNat (65 + nn % 16) :: acc).toArray) (EP.toV ?_)) ?_
    · refine EP.mono (EP.catY (EP.pieceY (EP.loc ((upd_ne (by decide)).trans ((upd_ne (by decide)).trans e3)) r₂) (PT.at (EP.loc upd_self hr')) (PT.at (EP.add (EP.loc upd_self hr') EP.int)) (by decide)) (EP.loc ((upd_ne (by decide)).trans ((upd_ne (by decide)).trans e2)) i2) ?_) ?_
      · have h1 := KBc.size_picked_le apAll.toArray (some ((nn % 16 : Nat) : Int)) (some ((nn % 16 : Nat) + 1 : Int))
        have h2 : apAll.toArray.size = 16 := rfl
        rw [h2] at h1
        have h3 : (KBy.picked #[65, 66, 67, 68, 69, 70, 71, 72, 73, 74, 75, 76, 77, 78, 79, 80] (some ((nn % 16 : Nat) : Int)) (some ((nn % 16 : Nat) + 1 : Int))).size ≤ 16 := h1
        simp only [List.size_toArray]
        exact Nat.le_trans (Nat.add_le_add h3 (Nat.le_refl _)) (by omega)
      · rintro v ⟨t, rfl⟩
        refine ⟨t, ?_⟩
        have h1 := ap_pick (nn % 16) (Nat.mod_lt _ (by decide))
        have h2 : (KBy.picked #[65, 66, 67, 68, 69, 70, 71, 72, 73, 74, 75, 76, 77, 78, 79, 80] (some ((nn % 16 : Nat) : Int)) (some ((nn % 16 : Nat) + 1 : Int))) = [UInt8.ofNat (65 + nn % 16)].toArray := h1
        show Value.bytes (KBy.picked #[65, 66, 67, 68, 69, 70, 71, 72, 73, 74, 75, 76, 77, 78, 79, 80] (some ((nn % 16 : Nat) : Int)) (some ((nn % 16 : Nat) + 1 : Int)) ++ acc.toArray) t = _
        rw [h2]; simp
    · rintro g₅ k₅ m₅ s₅ ⟨rfl, v₅, r₅, rfl⟩
      refine EX.nil ⟨rfl, c, Nat.lt_succ_self _, nn / 16, _, vq, v₅, rfl, hq', rfl, r₅, ?_, ?_, ?_, ?_⟩
      · exact (upd_ne (by decide)).trans ((upd_ne (by decide)).trans ((upd_ne (by decide)).trans e3))
      · rw [Nat.pow_succ] at hlt; omega
      · rw [← heq, hstep]; simp
      · simp only [List.length_cons]; omega
  · have hz : nn = 0 := by simpa using hc
    subst hz
    have h0 : apF c 0 = [] := by cases c <;> rfl
    rw [h0, List.nil_append] at heq
    refine EX.ret (R₁ := fun _ => isY acc.toArray) (EP.toV (EP.loc e2 i2)) fun g3 v s3 dis hv => by rw [← heq]; exact hv
end Mine
end
/-! P4 -/
section
open PySem PySem.W PyProof.Rows PySem.Calls
namespace Mine
noncomputable def wordB (many : Nat) (n : Nat) : List UInt8 := List.replicate (many - (apF many n).length) 65 ++ apF many n
noncomputable def textL (many : Nat) (ws : List (Int × Int)) : List UInt8 := (ws.map fun p => wordB many p.1.toNat).flatten
theorem apF_len : ∀ (f n : Nat), (apF f n).length ≤ f
  | 0, _ => Nat.le_refl _
  | f + 1, n => by
    rw [apF]
    split
    · exact Nat.zero_le _
    · rw [List.length_append]; have := apF_len f (n / 16); simp; omega
theorem wordB_len (many n : Nat) : (wordB many n).length = many := by
  have := apF_len many n
  rw [wordB, List.length_append, List.length_replicate]; omega
theorem flat_one (n : Nat) : (List.replicate n [(65 : UInt8)]).flatten = List.replicate n 65 := by
  induction n with
  | zero => rfl
  | succ n ih => rw [List.replicate_succ, List.flatten_cons, ih]; rfl
theorem textL_len (many : Nat) : ∀ ws : List (Int × Int), (textL many ws).length = many * ws.length
  | [] => rfl
  | p :: r => by
    have := textL_len many r
    rw [textL] at this ⊢
    rw [List.map_cons, List.flatten_cons, List.length_append, this, wordB_len, List.length_cons, Nat.mul_succ, Nat.add_comm]
theorem textL_len_le (many : Nat) (ws : List (Int × Int)) : (textL many ws).length ≤ many * ws.length := Nat.le_of_eq (textL_len many ws)
theorem text_ok {prog : Program} {w : World} {g : Bs} (B : Base w g) {ws : List (Int × Int)} {many : Nat} (hm4 : many ≤ 4) (hb : ∀ p ∈ ws, 0 ≤ p.1 ∧ p.1 < 16 ^ many) (h2 : 2 ≤ ws.length) (hz : ws.length ≤ 1000) {vw vm : Value} (hw : Rp prog w g vw (.lst (ws.map pairD))) (hm : isI (many : Int) vm) :
    FS prog w 2 83 [vw, vm] [] g (fun _ v => isY (textL many ws).toArray v) := by
  refine FS.body (binds := [("words", vw), ("many", vm)]) (B.at rfl) (by rfl) (B.code rfl) B.lim (BD.of_eq (by rfl)) (by rfl) (by decide) ?_
  intro A L k hh hdp hcells
  refine EX.then (E1.setM EM.nilList) fun g₁ k₁ m₁ s₁ r => ?_
  obtain ⟨v₁, ⟨rfl, a, ga, ka, rfl, rfl⟩, rfl⟩ := r
  refine EX.for (its := (ws.map pairD).map ik) (fun i g' k' m' => m' "many" = some vm ∧ m' "parts" = some (.ref a) ∧ ∃ vs n, k' a = some (lstO vs n) ∧ RpL prog w g' vs ((ws.take i).map fun p => .bytes (wordB many p.1.toNat).toArray))
    (EI.list hh (EV.R (EP.loc (v := vw) rfl hw))) (fun g' s => ⟨rfl, rfl, [], 0, setk_self, .nil⟩) ?_ ?_
  · rintro i it g' k' m' s hi ⟨e1, e2, vs, n, e4, hr⟩
    rw [List.getElem?_map, List.getElem?_map] at hi
    obtain ⟨d0, hd0, rfl⟩ := Option.map_eq_some_iff.mp hi
    obtain ⟨p, hp, rfl⟩ := Option.map_eq_some_iff.mp hd0
    have pb := hb p (List.mem_of_getElem? hp)
    refine EA.mono (EA.names2 hh) ?_
    rintro g2 k2 m2 s2 ⟨rfl, rfl, vn, vh, rn, rh, rfl⟩
    have B₂ := (B.mono s₁).mono s
    have hpn : p.1 = (p.1.toNat : Int) := by omega
    have hn16 : p.1.toNat < 16 ^ many := by
      have h1 := pb.2
      rw [hpn] at h1
      exact_mod_cast h1
    refine EX.then (E1.set (EV.call (fv := .ref 57) (EP.glob B₂) ⟨_, _, B₂.at rfl, rfl⟩ (EL.one (EP.loc (R := isI p.1) ((upd_ne (by decide)).trans upd_self) rn.isI)) ?_ (R := fun _ v => isY (apF many p.1.toNat).toArray v))) ?_
    · rintro g3 vs3 s3 ⟨v3, rfl, hv3⟩
      exact FS.toCV (ap_ok (B₂.mono s3) (by omega) hn16 (by rw [hpn] at hv3; exact hv3)) hh hdp
    · rintro g3 k3 m3 s3 ⟨rfl, v3, hv3, rfl⟩
      have B₃ := B₂.mono s3
      refine EX.then (E1.append (Y := a) (vs := vs) (n := n) (R := fun _ => isY (wordB many p.1.toNat).toArray) (EP.loc ((upd_ne (by decide)).trans ((upd_ne (by decide)).trans ((upd_ne (by decide)).trans e2))) rfl) e4 ?_ (EP.toV (EP.mono (EP.catY (EP.mulY EP.bytes (EP.sub (EP.loc ((upd_ne (by decide)).trans ((upd_ne (by decide)).trans ((upd_ne (by decide)).trans e1))) hm) (EP.lenY (EP.bi B₃) (EP.loc upd_self hv3) ?_)) ?_ ?_ ?_ ?_) (EP.loc upd_self hv3) ?_) ?_))) ?_
      · rw [hr.length]; simp only [List.length_map, List.length_take]; exact Nat.le_trans (Nat.min_le_right _ _) (Nat.le_trans hz (by decide))
      · have := apF_len many p.1.toNat; simp only [List.size_toArray]; omega
      · decide
      · have := apF_len many p.1.toNat; simp only [List.size_toArray]; omega
      · have := apF_len many p.1.toNat; simp only [List.size_toArray]; omega
      · decide
      · have := apF_len many p.1.toNat
        have e : ((many : Int) - ((apF many p.1.toNat).toArray.size : Nat)).toNat = many - (apF many p.1.toNat).length := by simp only [List.size_toArray]; omega
        rw [e, flat_one]
        simp only [List.size_toArray, List.length_replicate]; omega
      · rintro v ⟨t, rfl⟩
        refine ⟨t, ?_⟩
        have := apF_len many p.1.toNat
        have e : ((many : Int) - ((apF many p.1.toNat).toArray.size : Nat)).toNat = many - (apF many p.1.toNat).length := by simp only [List.size_toArray]; omega
        rw [e, flat_one, List.append_toArray]; rfl
      · rintro g4 k4 m4 s4 ⟨rfl, v4, hv4, rfl⟩
        refine EX.nil ⟨rfl, (upd_ne (by decide)).trans ((upd_ne (by decide)).trans ((upd_ne (by decide)).trans e1)), (upd_ne (by decide)).trans ((upd_ne (by decide)).trans ((upd_ne (by decide)).trans e2)), _, _, setk_self, ?_⟩
        rw [List.take_add_one, hp, List.map_append]
        exact RpL.append (.cons (rpY hv4) .nil) (hr.mono (s3.trans s4))
  · rintro g' k' m' s ⟨e1, e2, vs, n, e4, hr⟩
    rw [List.length_map, List.length_map, List.take_of_length_le (Nat.le_refl _)] at hr
    refine EX.ret (R₁ := fun _ => isY (textL many ws).toArray) ?_ fun g3 v s3 dis hv => hv
    refine EV.meth (T := "bytes") (id := "bytes.join") (Ro := isY #[]) (RL := fun _ vs => ∃ v, vs = [v] ∧ isV (.ref a) v) ?_ ?_ ?_ ?_ ?_ ?_ ?_
    · exact EP.bytes
    rotate_left
    · exact FB.plainAttrs_bytes
    · exact slot_bytes_join
    · exact type_bytes_join
    · exact EL.one (EP.loc (R := isV (.ref a)) e2 rfl)
    rotate_left
    · rintro ov s ⟨t, rfl⟩ _ _
      exact ⟨rfl, fun _ e => nomatch e⟩
    · rintro ov g3 vs3 ⟨t, rfl⟩ s3 ⟨v3, rfl, hv3⟩
      have hv3' : v3 = .ref a := hv3
      subst hv3'
      intro s Q S hq
      have hlen := hr.length
      rw [List.length_map] at hlen
      have key : ((ws.map fun p => (wordB many p.1.toNat).toArray).map Array.toList).flatten = textL many ws := by
        rw [textL, List.map_map]; rfl
      have hq' : ∀ t' k, (fun v s' => Q v s') (Value.bytes (((ws.map fun p => (wordB many p.1.toNat).toArray).map Array.toList).flatten).toArray t') { s with toks := k } := fun t' k => by
        rw [key]; exact hq g3 _ s.heap k (.refl S.leg) ⟨_, rfl⟩
      refine call_bytes_join (bs := ws.map fun p => (wordB many p.1.toNat).toArray) (S.lek _ _ e4) ?_ (by rw [List.length_map, hlen]) (by omega) ?_ hq'
      · intro i hi
        have hiw : i < ws.length := by omega
        have e5 : (ws.map fun p => D.bytes (wordB many p.1.toNat).toArray)[i]? = some (.bytes (wordB many (ws[i].1.toNat)).toArray) := by
          rw [List.getElem?_map, List.getElem?_eq_getElem hiw]; rfl
        obtain ⟨v, ev, rv⟩ := hr.get e5
        obtain ⟨tv, rfl⟩ := rv.isY
        exact ⟨_, tv, ev, by rw [List.getElem?_map, List.getElem?_eq_getElem hiw]; rfl⟩
      · rw [key]
        exact Nat.le_trans (textL_len_le many ws) (by
          have : many * ws.length ≤ 4 * 1000 := Nat.mul_le_mul hm4 hz
          omega)
end Mine
end
/-! P5 -/
section
open PySem PySem.W PyProof.Rows PySem.Calls
namespace Mine
/-- so far turned about -/
noncomputable def Turned (W : Nat) (data : List UInt8) (b : Array UInt8) (i j : Nat) : Prop := ∀ q r, r < W → (q < i ∨ (q = i ∧ r < j)) → b[q * W + (W - 1 - r)]? = data[q * W + r]?
theorem Turned.step {W cnt i j : Nat} {data : List UInt8} {b : Array UInt8} (h : Turned W data b i j) (hb : b.size = cnt * W) (hd : data.length = cnt * W) (hi : i < cnt) (hj : j < W) {c : UInt8} (hc : data[i * W + j]? = some c) : Turned W data (b.setIfInBounds (i * W + (W - 1 - j)) c) i (j + 1) := by
  intro q r hr hq
  have hin : i * W + (W - 1 - j) < b.size := by
    rw [hb]
    have : (i + 1) * W ≤ cnt * W := Nat.mul_le_mul_right _ hi
    rw [Nat.succ_mul] at this
    omega
  by_cases he : q = i ∧ r = j
  · obtain ⟨rfl, rfl⟩ := he
    rw [Array.getElem?_setIfInBounds_self_of_lt hin, hc]
  · have hne : i * W + (W - 1 - j) ≠ q * W + (W - 1 - r) := fun e => by
      obtain ⟨h1, h2⟩ := place_inj (W := W) (by omega) (by omega) e
      exact he ⟨h1.symm, by omega⟩
    rw [Array.getElem?_setIfInBounds_ne hne]
    refine h q r hr ?_
    rcases hq with hq | ⟨rfl, hq⟩
    · exact .inl hq
    · exact .inr ⟨rfl, by
        have : r ≠ j := fun e => he ⟨rfl, e⟩
        omega⟩
theorem Turned.next {W i : Nat} {data : List UInt8} {b : Array UInt8} (h : Turned W data b i W) : Turned W data b (i + 1) 0 := by
  intro q r hr hq
  refine h q r hr ?_
  rcases hq with hq | ⟨_, hq⟩
  · rcases Nat.lt_or_ge q i with h' | h'
    · exact .inl h'
    · exact .inr ⟨by omega, hr⟩
  · omega
theorem byteswap_ok {prog : Program} {w : World} {g : Bs} (B : Base w g) {data : List UInt8} {W cnt : Nat} (hW : 0 < W) (hWz : W ≤ 10000) (hd : data.length = cnt * W) (hz : data.length ≤ 10000) {vd vw : Value} (hvd : isY data.toArray vd) (hvw : isI (W : Int) vw) :
    FR prog w 1 64 [vd, vw] [] g nok (fun _ _ v => ∃ b : Array UInt8, isY b v ∧ b.size = cnt * W ∧ Turned W data b cnt 0) := by
  refine FR.body (binds := [("data", vd), ("width", vw)]) (B.at rfl) (by rfl) (B.code rfl) B.lim (BD.of_eq (by rfl)) (by rfl) ?_
  intro A L k hh hdp _ hcells
  refine EXR.thenR (E1R.set (EVR.bytearray (n := data.length) (EP.bi B) (EP.mono (EP.lenY (EP.bi B) (EP.loc (v := vd) rfl hvd) (by simp only [List.size_toArray]; omega)) fun v h => by simpa using h) (by omega))) fun g₁ k₁ m₁ s₁ r => ?_
  obtain ⟨v₁, ⟨a, ka, rfl, rfl⟩, rfl⟩ := r
  have B₁ := B.mono s₁
  have hcW : cnt ≤ cnt * W := Nat.le_mul_of_pos_right _ hW
  have hWc : 0 < cnt → W ≤ cnt * W := fun h => Nat.le_mul_of_pos_left _ h
  refine EXR.of ?_
  refine EX.for (its := (rngL 0 (W : Int) cnt).map .one) (fun i g' k' m' => m' "data" = some vd ∧ m' "width" = some vw ∧ m' "swapped_data" = some (.ref a) ∧ ∃ b, k' a = some (baO b) ∧ b.size = cnt * W ∧ Turned W data b i 0) ?_ ?_ ?_ ?_
  · refine EI.rng (a := 0) (b := (data.length : Int)) (c := (W : Int)) (n := cnt) hh (EV.range3 B₁ (by omega) (PyProof.noPylong_small (by omega)) (EP.bi B₁) EP.int (EP.mono (EP.lenY (EP.bi B₁) (EP.loc (v := vd) rfl hvd) (by simp only [List.size_toArray]; omega)) fun v h => by simpa using h) (EP.loc (v := vw) rfl hvw)) ?_ ?_
    · exact small_of (n := cnt) (by omega) (by omega) (by omega) (by omega) (by omega) (by omega) (by rw [hd]; exact rangeSize_steps hW) (by omega)
    · rw [hd]; exact rangeSize_steps hW
  · intro g' s
    exact ⟨rfl, rfl, rfl, _, setk_self, by simp [hd], fun q r hr hq => by omega⟩
  · rintro i it g' k' m' s hi ⟨e1, e2, e3, b, e4, hb, hT⟩
    obtain ⟨hlt, rfl⟩ := rng_get hi
    have B₂ := B₁.mono s
    refine EA.mono EA.name ?_
    rintro g2 k2 m2 s2 ⟨rfl, rfl, vi, ri, rfl⟩
    have hvi : isI ((i * W : Nat) : Int) vi := by have := ri.isI; simpa using this
    refine EX.for (its := (rngL 0 1 W).map .one) (fun j g' k' m' => m' "data" = some vd ∧ m' "width" = some vw ∧ m' "swapped_data" = some (.ref a) ∧ m' "i" = some vi ∧ ∃ b, k' a = some (baO b) ∧ b.size = cnt * W ∧ Turned W data b i j) ?_ ?_ ?_ ?_
    · exact EI.range1 hh B₂ (by omega) (EP.bi B₂) (EP.loc (v := vw) ((upd_ne (by decide)).trans e2) hvw)
    · exact fun g' s => ⟨(upd_ne (by decide)).trans e1, (upd_ne (by decide)).trans e2, (upd_ne (by decide)).trans e3, upd_self, b, e4, hb, hT⟩
    · rintro j it g3 k3 m3 s3 hj ⟨f1, f2, f3, f4, b3, f5, hb3, hT3⟩
      obtain ⟨hltj, rfl⟩ := rng_get hj
      refine EA.mono EA.name ?_
      rintro g4 k4 m4 s4 ⟨rfl, rfl, vj, rj, rfl⟩
      have hvj : isI (j : Int) vj := by have := rj.isI; simpa using this
      have hin : i * W + j < data.length := by
        have : (i + 1) * W ≤ cnt * W := Nat.mul_le_mul_right _ hlt
        rw [Nat.succ_mul] at this
        omega
      have hc : data[i * W + j]? = some data[i * W + j] := List.getElem?_eq_getElem hin
      have hiW : i * W + (W - 1 - j) < b3.size := by
        rw [hb3]
        have : (i + 1) * W ≤ cnt * W := Nat.mul_le_mul_right _ hlt
        rw [Nat.succ_mul] at this
        omega
      refine EX.then (E1.baSet (Y := a) (b := b3) (n := i * W + (W - 1 - j)) (v := (data[i * W + j].toNat : Int)) (EP.loc ((upd_ne (by decide)).trans f3) rfl) f5 ?_ ?_ hiW (by omega) ?_ (by rw [hb3]; omega)) ?_
      · refine EP.itemY (n := i * W + j) (EP.loc ((upd_ne (by decide)).trans f1) hvd) (EP.mono (EP.add (EP.loc ((upd_ne (by decide)).trans f4) hvi) (EP.loc upd_self hvj)) fun v h => ?_) hc (by omega)
        have e : ((i * W : Nat) : Int) + (j : Int) = ((i * W + j : Nat) : Int) := by omega
        rwa [e] at h
      · refine EP.mono (EP.sub (EP.sub (EP.add (EP.loc ((upd_ne (by decide)).trans f4) hvi) (EP.loc ((upd_ne (by decide)).trans f2) hvw)) EP.int) (EP.loc upd_self hvj)) fun v h => ?_
        have e : ((i * W : Nat) : Int) + (W : Int) - 1 - (j : Int) = ((i * W + (W - 1 - j) : Nat) : Int) := by omega
        rwa [e] at h
      · have := data[i * W + j].toNat_lt; omega
      · rintro g5 k5 m5 s5 ⟨rfl, rfl, rfl⟩
        refine EX.nil ⟨rfl, (upd_ne (by decide)).trans f1, (upd_ne (by decide)).trans f2, (upd_ne (by decide)).trans f3, (upd_ne (by decide)).trans f4, _, setk_self, by simpa using hb3, ?_⟩
        have hcc : ((data[i * W + j].toNat : Int).toNat.toUInt8) = data[i * W + j] := by simp
        rw [hcc]
        exact hT3.step hb3 hd hlt hltj hc
    · rintro g3 k3 m3 s3 ⟨f1, f2, f3, f4, b3, f5, hb3, hT3⟩
      rw [rng_len] at hT3
      exact EX.nil ⟨rfl, f1, f2, f3, b3, f5, hb3, hT3.next⟩
  · rintro g' k' m' s ⟨e1, e2, e3, b, e4, hb, hT⟩
    rw [rng_len] at hT
    have B₂ := B₁.mono s
    refine EX.ret (R₁ := fun _ => isY b) (EP.toV (EP.bytesOf (EP.bi B₂) (EP.loc e3 rfl) e4 (by rw [hb]; omega))) fun g3 v s3 dis hv _ => ⟨b, hv, hb, hT⟩
end Mine
end
/-! P6 -/
section
open PySem PySem.W PyProof.Rows PySem.Calls
namespace Mine
noncomputable def ordStep (turn : Nat) (o : Str) : List Str := (List.range (turn + 1)).map fun (sp : Nat) => Txt.slice o none (some (sp : Int)) ++ Txt.item "0123" (turn : Int) ++ Txt.slice o (some (sp : Int)) none
noncomputable def ordersL : Nat → List Str
  | 0 => [""]
  | n + 1 => ((ordersL n).map (ordStep n)).flatten
noncomputable def ordersD (n : Nat) : D := .lst ((ordersL n).map .str)
theorem orders_small : ∀ n, n ≤ 3 → (∀ o ∈ ordersL n, o.length = n) ∧ ((ordersL n).map (ordStep n)).flatten.length ≤ 24 := by decide +kernel
theorem orders_ok {prog : Program} {w : World} {g : Bs} (B : Base w g) {n : Nat} (hn : n ≤ 4) {vm : Value} (hm : isI (n : Int) vm) :
    FS prog w 1 105 [vm] [] g (fun g' v => Rp prog w g' v (ordersD n)) := by
  refine FS.body (binds := [("many", vm)]) (B.at rfl) (by rfl) (B.code rfl) B.lim (BD.of_eq (by rfl)) (by rfl) (by decide) ?_
  intro A L k hh hdp hcells
  obtain ⟨oc, kc, hoc⟩ := hcells "turn" (L + 1) rfl
  have hoc' : oc.data = .cell none := hoc
  refine EX.then (E1.set (EV.list (EL.rone (EV.S EP.str)) fun _ _ r => r)) fun g₁ k₁ m₁ s₁ r => ?_
  obtain ⟨rfl, v₁, r₁, rfl⟩ := r
  have B₁ := B.mono s₁
  refine EX.for (its := (rngL 0 1 n).map .one) (fun i g' k' m' => (∃ o v₀, k' (L + 1) = some o ∧ o.data = .cell v₀) ∧ ∃ v, m' "orders" = some v ∧ Rp prog w g' v (ordersD i)) ?_ ?_ ?_ ?_
  · exact EI.range1 hh B₁ (by omega) (EP.bi B₁) (EP.loc (v := vm) rfl hm)
  · exact fun g' s => ⟨⟨oc, none, kc, hoc'⟩, v₁, rfl, r₁.mono s⟩
  · rintro i it g' k' m' s hi ⟨⟨o, v₀, ek, hd⟩, v, e2, hr⟩
    obtain ⟨hlt, rfl⟩ := rng_get hi
    have B₂ := B₁.mono s
    refine EA.mono (EA.nameC (c := L + 1) rfl ek hd) ?_
    rintro g2 k2 m2 s2 ⟨rfl, rfl, vt, o', rt, hd', rfl⟩
    have hvt : isI (i : Int) vt := by have := rt.isI; simpa using this
    obtain ⟨hlen, hsmall⟩ := orders_small i (by omega)
    refine EX.then (CKM.set (CK.two (its := ((ordersL i).map .str).map ik) (dss := (ordersL i).map fun o => (ordStep i o).map .str) ?_ ?_ ?_ ?_)) ?_
    · simp
    · have : ((ordersL i).map fun o => (ordStep i o).map D.str).flatten = ((ordersL i).map (ordStep i)).flatten.map .str := by rw [List.map_flatten, List.map_map]; rfl
      rw [this, List.length_map]; exact Nat.le_trans hsmall (by decide)
    · exact EI.list hh (EV.R (EP.loc (v := v) e2 hr))
    · intro C j it ds g3 k3 m3 s3 sk hj hds
      rw [List.getElem?_map, List.getElem?_map] at hj
      rw [List.getElem?_map] at hds
      obtain ⟨d0, hd0, rfl⟩ := Option.map_eq_some_iff.mp hj
      obtain ⟨p, hp, rfl⟩ := Option.map_eq_some_iff.mp hd0
      rw [hp] at hds
      cases hds
      have hpl := hlen p (List.mem_of_getElem? hp)
      refine EA.mono EA.name ?_
      rintro g4 k4 m4 s4 ⟨rfl, rfl, vo, ro, rfl⟩
      have hcell : k4 (L + 1) = some o' := sk _ _ setk_self
      refine ⟨rfl, (rngL 0 1 (i + 1)).map .one, fun m => ∃ v, m "order" = some v ∧ isS p v, ?_, ⟨vo, upd_self, ro.isS⟩, ?_, ?_⟩
      · simp [rngL, ordStep]
      · refine EI.range1 hh (B₂.mono s3) (by omega) (EP.bi (B₂.mono s3)) (EP.mono (EP.add (EP.cell (c := L + 1) (o := o') (R := isI (i : Int)) rfl (.inl hcell) hd' hvt) EP.int) fun v h => by simpa using h)
      · intro q it2 d g6 k6 m6 s6 sk6 hq hd2 ⟨v1, e3, i1⟩
        obtain ⟨hltq, rfl⟩ := rng_get hq
        have hcell6 : k6 (L + 1) = some o' := sk6 _ _ setk_self
        refine EA.mono EA.name ?_
        rintro g7 k7 m7 s7 ⟨rfl, rfl, vs, rs, rfl⟩
        have hvs : isI (q : Int) vs := by have := rs.isI; simpa using this
        refine ⟨rfl, ⟨v1, (upd_ne (by decide)).trans e3, i1⟩, ?_⟩
        have hd3 : d = .str (Txt.slice p none (some (q : Int)) ++ Txt.item "0123" (i : Int) ++ Txt.slice p (some (q : Int)) none) := by
          unfold ordStep at hd2; dsimp only at hd2
          rw [List.map_map, List.getElem?_map, List.getElem?_range hltq] at hd2
          exact (Option.some.inj hd2).symm
        subst hd3
        have l1 := Txt.slice_le p none (some (q : Int))
        have l2 := Txt.slice_le p (some (q : Int)) none
        refine EV.S (EP.cat (EP.cat (EP.pieceS (EP.loc ((upd_ne (by decide)).trans e3) i1) PT.no (PT.at (EP.loc upd_self hvs)) ?_) (EP.itemS EP.str (EP.cell (c := L + 1) (o := o') rfl (.inl hcell6) hd' hvt) (by omega) ?_ (by omega)) ?_) (EP.pieceS (EP.loc ((upd_ne (by decide)).trans e3) i1) (PT.at (EP.loc upd_self hvs)) PT.no ?_) ?_)
        · rw [hpl]; exact Nat.le_trans (Nat.le_of_lt (Nat.lt_of_lt_of_le hlt hn)) (by decide)
        · show (i : Int) < 4; omega
        · have l3 : (Txt.item "0123" (i : Int)).length = 1 := rfl
          have : sizeLine = 16777216 := rfl
          omega
        · rw [hpl]; exact Nat.le_trans (Nat.le_of_lt (Nat.lt_of_lt_of_le hlt hn)) (by decide)
        · have l3 : (Txt.slice p none (some (q : Int)) ++ Txt.item "0123" (i : Int)).length = (Txt.slice p none (some (q : Int))).length + 1 := by
            show (Txt.slice p none (some (q : Int)) ++ Txt.item "0123" (i : Int)).cps.size = _
            exact (Array.size_append).trans rfl
          have : sizeLine = 16777216 := rfl
          omega
    · rintro g3 k3 m3 s3 ⟨rfl, v3, hv3, rfl⟩
      refine EX.nil ⟨rfl, ⟨o', _, setk_self, hd'⟩, v3, upd_self, ?_⟩
      have e : ((ordersL i).map fun o => (ordStep i o).map D.str).flatten = (ordersL (i + 1)).map .str := by rw [ordersL, List.map_flatten, List.map_map]; rfl
      rw [e] at hv3
      exact hv3
  · rintro g' k' m' s ⟨_, v, e2, hr⟩
    rw [rng_len] at hr
    refine EX.ret (R₁ := fun _ v' => v' = v) (EP.toV (EP.loc e2 rfl)) fun g3 v s3 dis hv => ?_
    subst hv
    exact (hr.mono s3).mono joinB_l
end Mine
end
/-! P7 -/
section
open PySem PySem.W PyProof.Rows PySem.Calls
namespace Mine
noncomputable def fallAt (o : Str) (s : Nat) : Option Int := if (Txt.item o ((s : Int) + 1)).cps.toList < (Txt.item o (s : Int)).cps.toList then some ((o.length : Int) - 1 - (s : Int)) else none
noncomputable def fallsL (o : Str) : List Int := ((List.range (o.length - 1)).map (fallAt o)).filterMap id
theorem falls_len (o : Str) : (fallsL o).length ≤ o.length - 1 := Nat.le_trans (List.length_filterMap_le _ _) (by simp)
theorem falls_ok {prog : Program} {w : World} {g : Bs} (B : Base w g) {o : Str} (h1 : 1 ≤ o.length) (h2 : o.length ≤ 1000) {vo : Value} (ho : isS o vo) :
    FS prog w 1 110 [vo] [] g (fun g' v => Rp prog w g' v (.lst ((fallsL o).map .int))) := by
  refine FS.body (binds := [("order", vo)]) (B.at rfl) (by rfl) (B.code rfl) B.lim (BD.of_eq (by rfl)) (by rfl) (by decide) ?_
  intro A L k hh hdp hcells
  obtain ⟨oc, kc, hoc⟩ := hcells "order" (L + 1) rfl
  have hoc' : oc.data = .cell (some vo) := hoc
  refine EX.ret (R₁ := fun g' v => Rp prog w g' v (.lst ((fallsL o).map .int))) ?_ fun g3 v s3 dis hv => hv.mono joinB_l
  have e : (fallsL o).map D.int = (((List.range (o.length - 1)).map (fallAt o)).map (Option.map D.int)).filterMap id := by
    unfold fallsL
    induction (List.map (fallAt o) (List.range (o.length - 1))) with
    | nil => rfl
    | cons x r ih => cases x <;> simp_all
  rw [e]
  refine CKM.ev (CK.oneIf (its := (rngL 0 1 (o.length - 1)).map .one) ?_ ?_ ?_ ?_)
  · simp [rngL]
  · rw [List.length_map, List.length_map, List.length_range]; unfold sizeLine; omega
  · refine EI.range1 hh B (by omega) (EP.bi B) (EP.mono (EP.sub (EP.lenS (EP.bi B) (EP.cell (c := L + 1) (o := oc) rfl (.inl kc) hoc' ho) (by omega)) EP.int) fun v h => ?_)
    have e : (o.length : Int) - 1 = ((o.length - 1 : Nat) : Int) := by omega
    rwa [e] at h
  · intro C i it d g' k' m' s sk hi hd
    obtain ⟨hlt, rfl⟩ := rng_get hi
    rw [List.getElem?_map, List.getElem?_map, List.getElem?_range hlt] at hd
    have hd' : d = (fallAt o i).map D.int := (Option.some.inj hd).symm
    have hcell := sk _ _ kc
    have B₂ := B.mono s
    refine EA.mono EA.name ?_
    rintro g2 k2 m2 s2 ⟨rfl, rfl, vs, rs, rfl⟩
    have hvs : isI (i : Int) vs := by have := rs.isI; simpa using this
    have ei : ((i : Int) + 1) < o.length := by omega
    refine ⟨rfl, ?_, ?_⟩
    · have hS : d.isSome = decide ((Txt.item o ((i : Int) + 1)).cps.toList < (Txt.item o (i : Int)).cps.toList) := by
        rw [hd', fallAt]
        split <;> simp_all
      rw [hS]
      refine ET.cmp (EP.itemS (EP.cell (c := L + 1) (o := oc) rfl (.inl hcell) hoc' ho) (EP.loc upd_self hvs) (by omega) (by omega) (by omega)) (EP.itemS (EP.cell (c := L + 1) (o := oc) rfl (.inl hcell) hoc' ho) (EP.add (EP.loc upd_self hvs) EP.int) (by omega) ei (by omega)) fun _ _ a b => CO.gtS a b
    · intro d' hd2
      have e3 : d' = .int ((o.length : Int) - 1 - (i : Int)) := by
        rw [hd2, fallAt] at hd'
        split at hd'
        · exact Option.some.inj hd'
        · cases hd'
      rw [e3]
      exact EV.I (EP.sub (EP.sub (EP.lenS (EP.bi B₂) (EP.cell (c := L + 1) (o := oc) rfl (.inl hcell) hoc' ho) (by omega)) EP.int) (EP.loc upd_self hvs))
end Mine
end
/-! P8 -/
section
open PySem PySem.W PyProof.Rows PySem.Calls
namespace Mine
theorem RpL.ints {prog : Program} {w : World} {g : Bs} : ∀ {vs : List Value} {ns : List Int}, RpL prog w g vs (ns.map .int) → IntsAre vs ns
  | _, [], r => by cases r; exact .nil
  | _, n :: ns, r => by
    cases r with
    | cons a b => cases a with | int i t => exact .cons n t (RpL.ints b)
section
variable {prog : Program} {w : World} {A : Around} {env : Env} {g k : Bs} {m : Mp}
theorem EP.toM {e : Expr} {R : Value → Prop} (h : EP prog w A env g k m e R) : EM prog w A env g k m e fun g' k' v => g' = g ∧ k' = k ∧ R v := fun s Q S hq => h s Q S fun v h' tk l r => hq g k v h' tk (.ofGr S (.leH S.leg l)) ⟨rfl, rfl, r⟩
theorem EP.sum {np pos : Pos} {e : Expr} {ns : List Int} (hh : A.handled = Option.none) (hf : EP prog w A env g k m (.Name "sum" np) (isV (.builtin "sum"))) (he : EV prog w A env g k m e (fun g' v => Rp prog w g' v (.lst (ns.map .int)))) (hst : starEach [e] env = (false, eval e env) :: starEach [] env := by rfl) (hpl : ((backTo pos (starEach [e] env)).any (·.1) || (backToKw pos (keywordEach [] env)).any (·.1.isNone)) = false := by rfl) :
    EP prog w A env g k m (.Call (.Name "sum" np) [e] [] pos) (isI ns.sum) :=
  EP.call (RL := fun g' vs => ∃ v, vs = [v] ∧ Rp prog w g' v (.lst (ns.map .int))) hf trivial (.cons he (fun g' v s r => .nil ⟨v, rfl, r⟩) hst) (fun g' vs hs ⟨v, ev, r⟩ s Q S hq => by
    subst ev
    cases r with
    | @lst a vs n _ e rl =>
      have hi := rl.ints
      obtain ⟨xs, hxs⟩ := hi.allInts.items
      have hL : s.heap.IsList a (intItems xs) := hxs ▸ (⟨_, S.leg _ _ e, rfl, _, rfl⟩ : s.heap.IsList a vs.toArray)
      refine sum_intListG hh hL fun h' tk t' hk => ?_
      have hn : ns = xs.toList.map (·.1) := by rw [← nums_intItems, ← hxs]; exact (hi.numsOf).symm
      have e2 : preSum (numAt xs) xs.size = ns.sum := by rw [preSum_eq, List.take_of_length_le (by simp), ← hn]
      exact hq g' _ h' tk (.leH S.leg hk) ⟨t', by rw [e2]⟩) hst hpl
end
noncomputable def upAt (o : Str) (size : Int) : Nat → Int
  | 0 => 16 ^ (fallsL o).sum.toNat
  | t + 1 => upAt o size t * (16 ^ (size - 1 - ((fallsL o).length : Int) + ((t + 1 : Nat) : Int)).toNat - 1)
noncomputable def lowAt : Nat → Int
  | 0 => 1
  | t + 1 => lowAt t * (16 ^ (t + 1) - 1)
noncomputable def gaussI (o : Str) (size : Int) : Int := (upAt o size o.length).fdiv (lowAt o.length)
theorem lowAt_small : ∀ t, t ≤ 4 → lowAt t ≠ 0 ∧ (lowAt t).natAbs.log2 < 9000 := by decide +kernel
theorem bits_small : ∀ e, e ≤ 16 → Builtin.Int.intBits ((16 : Int) ^ e - 1) ≤ 64 := by decide +kernel
theorem falls_range (o : Str) : ∀ x ∈ fallsL o, 0 ≤ x ∧ x ≤ o.length := by
  intro x hx
  unfold fallsL at hx
  obtain ⟨y, hy, e⟩ := List.mem_filterMap.mp hx
  obtain ⟨s, hs, rfl⟩ := List.mem_map.mp hy
  have hs' := List.mem_range.mp hs
  simp only [id_eq, fallAt] at e
  split at e
  · have := Option.some.inj e; omega
  · cases e
theorem sum_range {L : Int} : ∀ l : List Int, (∀ x ∈ l, 0 ≤ x ∧ x ≤ L) → 0 ≤ l.sum ∧ l.sum ≤ L * l.length
  | [], _ => by simp
  | x :: r, h => by
    have ih := sum_range r fun y hy => h y (.tail _ hy)
    have hx := h x (.head _)
    rw [List.sum_cons, List.length_cons]
    have e : L * ((r.length + 1 : Nat) : Int) = L * r.length + L := by rw [Int.natCast_succ, Int.mul_add, Int.mul_one]
    omega
theorem gauss_ok {prog : Program} {w : World} {g : Bs} (B : Base w g) {o : Str} {size : Int} (h1 : 1 ≤ o.length) (h2 : o.length ≤ 4) (hs0 : 4 ≤ size) (hs1 : size ≤ 12) {vo vs : Value} (ho : isS o vo) (hs : isI size vs) :
    FS prog w 2 117 [vo, vs] [] g (fun _ v => isI (gaussI o size) v) := by
  refine FS.body (binds := [("order", vo), ("size", vs)]) (B.at rfl) (by rfl) (B.code rfl) B.lim (BD.of_eq (by rfl)) (by rfl) (by decide) ?_
  intro A L k hh hdp hcells
  have hfl := falls_len o
  have hsum := sum_range (fallsL o) (falls_range o)
  have hsum2 : (fallsL o).sum ≤ 16 := by
    have h3 : (o.length : Int) * ((fallsL o).length : Int) ≤ 4 * 4 := by
      have : o.length * (fallsL o).length ≤ 4 * 4 := Nat.mul_le_mul h2 (by omega)
      exact_mod_cast this
    omega
  refine EX.then (E1.set (EV.call (fv := .ref 110) (RL := fun _ l => ∃ v, l = [v] ∧ isS o v) (R := fun g' v => Rp prog w g' v (.lst ((fallsL o).map .int))) (EP.glob B) ⟨_, _, B.at rfl, rfl⟩ (EL.one (EP.loc (v := vo) rfl ho)) ?_)) fun g₁ k₁ m₁ s₁ r => ?_
  · rintro g' l s' ⟨v, rfl, hv⟩
    exact FS.toCV (falls_ok (B.mono s') h1 (by omega) hv) hh hdp
  obtain ⟨rfl, v₁, r₁, rfl⟩ := r
  have B₁ := B.mono s₁
  have h16 : (Builtin.Int.intBits 16 : Int) = 5 := by rfl
  refine EX.then (E1.pairS hh (EP.toM (EP.pow EP.int (EP.sum hh (EP.bi B₁) (EV.R (EP.loc (v := v₁) rfl r₁))) hsum.1 (by rw [h16]; omega))) (fun _ _ _ _ _ => EP.int)) fun g₂ k₂ m₂ s₂ r => ?_
  obtain ⟨vu, vl, ⟨rfl, rfl, hvu⟩, hvl, rfl⟩ := r
  refine EX.for (its := (rngL 1 1 o.length).map .one) (fun i g' k' m' => m' "order" = some vo ∧ m' "size" = some vs ∧ m' "falls" = some v₁ ∧ (∃ v, m' "upper" = some v ∧ isI (upAt o size i) v) ∧ ∃ v, m' "lower" = some v ∧ isI (lowAt i) v) ?_ ?_ ?_ ?_
  · refine EI.rng (a := 1) (b := (o.length : Int) + 1) (c := 1) (n := o.length) hh (EV.range2 B₁ (EP.bi B₁) EP.int (EP.add (EP.lenS (EP.bi B₁) (EP.loc (v := vo) rfl ho) (by omega)) EP.int)) (small_one (by omega) (by omega) (by omega) (by omega)) (by rw [rangeSize_one]; split <;> omega)
  · exact fun g' s => ⟨rfl, rfl, rfl, ⟨vu, rfl, hvu⟩, vl, rfl, hvl⟩
  · rintro i it g' k' m' s hi ⟨e1, e2, e3, ⟨v4, e4, i4⟩, v5, e5, i5⟩
    obtain ⟨hlt, rfl⟩ := rng_get hi
    have B₂ := B₁.mono s
    refine EA.mono EA.name ?_
    rintro g3 k3 m3 s3 ⟨rfl, rfl, vt, rt, rfl⟩
    have hvt : isI ((i + 1 : Nat) : Int) vt := by
      have := rt.isI
      have e : (1 : Int) + (i : Int) * 1 = ((i + 1 : Nat) : Int) := by omega
      rwa [e] at this
    have hexp : 0 ≤ size - 1 - ((fallsL o).length : Int) + ((i + 1 : Nat) : Int) ∧ size - 1 - ((fallsL o).length : Int) + ((i + 1 : Nat) : Int) ≤ 16 := by omega
    refine EX.then (E1.aug (v₀ := v4) (R := isI (16 ^ (size - 1 - ((fallsL o).length : Int) + ((i + 1 : Nat) : Int)).toNat - 1)) (R' := isI (upAt o size (i + 1))) ((upd_ne (by decide)).trans e4)
      (EP.sub (EP.pow EP.int (EP.add (EP.sub (EP.sub (EP.loc (v := vs) ((upd_ne (by decide)).trans e2) hs) EP.int) (EP.mono (EP.lenL (ds := (fallsL o).map .int) (EP.bi B₂) (EP.loc (v := v₁) ((upd_ne (by decide)).trans e3) (r₁.mono s)) (by rw [List.length_map]; omega)) fun v h => by rwa [List.length_map] at h)) (EP.loc upd_self hvt)) hexp.1 (by rw [h16]; omega)) EP.int) ?_) ?_
    · rintro v' s' Q ⟨t', rfl⟩ hq
      obtain ⟨t, rfl⟩ := i4
      exact imul_int (hq _ _ ⟨_, rfl⟩) (.of_right (bits_small _ (by omega)))
    · rintro g4 k4 m4 s4 ⟨rfl, rfl, u, hu, rfl⟩
      refine EX.then (E1.aug (v₀ := v5) (R := isI (16 ^ (i + 1) - 1)) (R' := isI (lowAt (i + 1))) ((upd_ne (by decide)).trans ((upd_ne (by decide)).trans e5))
        (EP.sub (EP.mono (EP.pow EP.int (EP.loc (v := vt) ((upd_ne (by decide)).trans upd_self) hvt) (by omega) (by rw [h16]; omega)) fun v h => by rwa [Int.toNat_natCast] at h) EP.int) ?_) ?_
      · rintro v' s' Q ⟨t', rfl⟩ hq
        obtain ⟨t, rfl⟩ := i5
        exact imul_int (hq _ _ ⟨_, rfl⟩) (.of_right (bits_small _ (by omega)))
      · rintro g5 k5 m5 s5 ⟨rfl, rfl, u2, hu2, rfl⟩
        exact EX.nil ⟨rfl, (upd_ne (by decide)).trans ((upd_ne (by decide)).trans ((upd_ne (by decide)).trans e1)), (upd_ne (by decide)).trans ((upd_ne (by decide)).trans ((upd_ne (by decide)).trans e2)), (upd_ne (by decide)).trans ((upd_ne (by decide)).trans ((upd_ne (by decide)).trans e3)), ⟨u, (upd_ne (by decide)).trans upd_self, hu⟩, u2, upd_self, hu2⟩
  · rintro g' k' m' s ⟨e1, e2, e3, ⟨v4, e4, i4⟩, v5, e5, i5⟩
    rw [rng_len] at i4 i5
    have hl := lowAt_small o.length h2
    exact EX.ret (R₁ := fun _ => isI (gaussI o size)) (EP.toV (EP.fdiv (EP.loc e4 i4) (EP.loc e5 i5) hl.1 (PyProof.noPylong_of_log2 hl.2))) fun g3 v s3 dis hv => hv
end Mine
end
/-! P9 -/
section
open PySem PySem.W PyProof.Rows PySem.Calls
namespace Mine
section
variable {prog : Program} {w : World} {A : Around} {env : Env} {g k : Bs} {m : Mp}
theorem EM.nilDictB {pos : Pos} : EM prog w A env g k m (.Dict [] [] pos) fun g' k' v => g' = g ∧ ∃ a, k a = .none ∧ (∀ b o, g b = some o → b < a) ∧ v = .ref a ∧ k' = setk k a { cls := .type "dict", data := .dict #[] } := fun s Q S hq =>
  wpAny_Dict_empty (hq g _ _ _ s.toks (.fresh S rfl) ⟨rfl, _, S.none_size.2, fun b o e => Heap.lt_size (S.leg b o e), rfl, rfl⟩)
theorem Base.noMods {g : Bs} {a : Addr} (B : Base w g) (h : ∀ b o, g b = some o → b < a) : (a == sysModules) = false := by
  obtain ⟨h₀, p, lo, me, mg, mb, x, b, c⟩ := B
  obtain ⟨o, ho⟩ := ns_some c.g
  have h3 : mainGlobals < a := h _ o (x _ o ho)
  have hm : mainGlobals = 3 := rfl
  have hs : sysModules = 1 := rfl
  cases q : a == sysModules with
  | false => rfl
  | true =>
    have e : a = sysModules := eq_of_beq q
    rw [e, hm, hs] at h3
    exact absurd h3 (by decide)
end
noncomputable def rowS (row : List Nat) : Str := Txt.join "" (row.map fun (p : Nat) => Txt.item "0123" (p : Int))
noncomputable def tallyStep (unit : Int) (acc : List (Str × Int)) (p : List Nat × Int × Int) : List (Str × Int) := setI acc (rowS p.1) (getI acc (rowS p.1) 0 + unit ^ p.2.2.toNat)
noncomputable def tallyL (rows : List (List Nat)) (ws : List (Int × Int)) (unit : Int) : List (Str × Int) := (rows.zip ws).foldl (tallyStep unit) []
noncomputable def rowD (r : List Nat) : D := .lst (r.map fun (p : Nat) => .int (p : Int))
theorem setI_len (ds : List (Str × Int)) (x : Str) (v : Int) : (setI ds x v).length ≤ ds.length + 1 := by
  unfold setI
  split
  · rw [List.length_map]; omega
  · rw [List.length_append]; exact Nat.le_refl _
theorem tally_len (unit : Int) : ∀ (l : List (List Nat × Int × Int)) (acc : List (Str × Int)), (l.foldl (tallyStep unit) acc).length ≤ acc.length + l.length
  | [], acc => by simp
  | p :: r, acc => by
    rw [List.foldl_cons, List.length_cons]
    have h1 := tally_len unit r (tallyStep unit acc p)
    have h2 := setI_len acc (rowS p.1) (getI acc (rowS p.1) 0 + unit ^ p.2.2.toNat)
    have h3 : (tallyStep unit acc p).length ≤ acc.length + 1 := h2
    omega
theorem enum_get {ds : List D} {i : Nat} {it : IK} (h : (enumL ds)[i]? = some it) : ∃ d, ds[i]? = some d ∧ it = .tup [.int (i : Int), d] := by
  rw [enumL, List.getElem?_zipWith] at h
  cases hd : ds[i]? with
  | none =>
    rw [hd] at h
    cases hr : (List.range ds.length)[i]? <;> rw [hr] at h <;> cases h
  | some d =>
    have hlt := (List.getElem?_eq_some_iff.mp hd).1
    rw [hd, List.getElem?_range hlt] at h
    exact ⟨d, rfl, (Option.some.inj h).symm⟩
theorem enum_len {ds : List D} : (enumL ds).length = ds.length := by simp [enumL]
theorem tally_ok {prog : Program} {w : World} {g : Bs} (B : Base w g) {rows : List (List Nat)} {ws : List (Int × Int)} {unit : Int} (hl : rows.length = ws.length) (hz : rows.length ≤ 1000) (hr : ∀ r ∈ rows, r.length ≤ 4 ∧ ∀ p ∈ r, p < 4) (hb : ∀ p ∈ ws, 0 ≤ p.2 ∧ p.2 ≤ 100) (hu : Builtin.Int.intBits unit ≤ 64)
    {vr vw vu : Value} (hvr : Rp prog w g vr (.lst (rows.map rowD))) (hvw : Rp prog w g vw (.lst (ws.map pairD))) (hvu : isI unit vu) :
    FS prog w 1 95 [vr, vw, vu] [] g (fun g' v => Rp prog w g' v (.dct (tallyL rows ws unit)) ∧ v ≠ .ref sysModules) := by
  refine FS.body (binds := [("rows", vr), ("words", vw), ("unit", vu)]) (B.at rfl) (by rfl) (B.code rfl) B.lim (BD.of_eq (by rfl)) (by rfl) (by decide) ?_
  intro A L k hh hdp hcells
  refine EX.then (E1.setM EM.nilDictB) fun g₁ k₁ m₁ s₁ r => ?_
  obtain ⟨v₁, ⟨rfl, a, ka, hlow, rfl, rfl⟩, rfl⟩ := r
  have hS := B.noMods hlow
  refine EX.for (its := enumL (rows.map rowD)) (fun i g' k' m' => m' "rows" = some vr ∧ m' "words" = some vw ∧ m' "unit" = some vu ∧ m' "tally" = some (.ref a) ∧ ∃ ob, k' a = some ob ∧ DK prog w ob (((rows.zip ws).take i).foldl (tallyStep unit) [])) ?_ ?_ ?_ ?_
  · exact EI.enum hh rfl (EP.bi B) (EV.R (EP.loc (v := vr) rfl hvr))
  · exact fun g' s => ⟨rfl, rfl, rfl, rfl, _, setk_self, DK.nil⟩
  · rintro i it g' k' m' s hi ⟨e1, e2, e3, e4, ob, eo, hd⟩
    obtain ⟨d0, hd0, rfl⟩ := enum_get hi
    rw [List.getElem?_map] at hd0
    obtain ⟨row, hrow, rfl⟩ := Option.map_eq_some_iff.mp hd0
    have hri := hr row (List.mem_of_getElem? hrow)
    have hlt : i < rows.length := (List.getElem?_eq_some_iff.mp hrow).1
    obtain ⟨wd, hwd⟩ : ∃ p, ws[i]? = some p := ⟨ws[i]'(by omega), List.getElem?_eq_getElem _⟩
    have hbw := hb wd (List.mem_of_getElem? hwd)
    refine EA.mono (EA.names2 hh) ?_
    rintro g2 k2 m2 s2 ⟨rfl, rfl, vt, vrow, rt, rrow, rfl⟩
    refine EX.then (E1.set (R := fun _ v => isS (rowS row) v) (EV.joinS (xs := row.map fun (p : Nat) => Txt.item "0123" (p : Int)) ?_ (CKM.ev (CK.one (its := (row.map fun (p : Nat) => D.int (p : Int)).map ik) ?_ ?_ ?_ ?_)))) ?_
    · have : (row.map fun (p : Nat) => Txt.item "0123" (p : Int)).map (·.length) = List.replicate row.length 1 := by
        rw [List.map_map, List.eq_replicate_iff]
        refine ⟨by simp, fun b hb => ?_⟩
        obtain ⟨p, _, rfl⟩ := List.mem_map.mp hb
        exact PyProof.Rows.len_item _ _
      rw [this, List.sum_replicate_nat]; omega
    · simp
    · simp only [List.length_map]; exact Nat.le_trans hri.1 (by decide)
    · exact EI.list hh (EV.R (EP.loc (v := vrow) upd_self rrow))
    · intro C j it d g3 k3 m3 s3 sk hj hd3
      rw [List.getElem?_map, List.getElem?_map] at hj
      rw [List.getElem?_map, List.getElem?_map] at hd3
      obtain ⟨d1, hd1, rfl⟩ := Option.map_eq_some_iff.mp hj
      obtain ⟨p, hp, rfl⟩ := Option.map_eq_some_iff.mp hd1
      rw [hp] at hd3
      cases hd3
      have hp4 := hri.2 p (List.mem_of_getElem? hp)
      refine EA.mono EA.name ?_
      rintro g4 k4 m4 s4 ⟨rfl, rfl, vp, rp, rfl⟩
      exact ⟨rfl, EV.S (EP.itemS EP.str (EP.loc upd_self rp.isI) (by omega) (by show (p : Int) < 4; omega) (by omega))⟩
    · rintro g3 k3 m3 s3 ⟨rfl, v3, hv3, rfl⟩
      have B₂ := ((B.mono s).mono s3)
      have hz2 := tally_len unit ((rows.zip ws).take i) []
      have hz3 : ((rows.zip ws).take i).length ≤ 1000 := by rw [List.length_take, List.length_zip]; omega
      refine EX.then (E1.dset (x := rowS row) (v := getI (((rows.zip ws).take i).foldl (tallyStep unit) []) (rowS row) 0 + unit ^ wd.2.toNat) (EP.loc ((upd_ne (by decide)).trans ((upd_ne (by decide)).trans ((upd_ne (by decide)).trans e4))) rfl) eo hd ?_ (EP.add (EP.dget (EP.loc ((upd_ne (by decide)).trans ((upd_ne (by decide)).trans ((upd_ne (by decide)).trans e4))) rfl) (.inl eo) hd hS (EP.loc upd_self hv3) EP.int) (EP.pow (EP.loc ((upd_ne (by decide)).trans ((upd_ne (by decide)).trans ((upd_ne (by decide)).trans e3))) hvu) ?_ hbw.1 ?_)) (EP.loc upd_self hv3)) ?_
      · simp only [List.length_nil] at hz2
        exact Nat.le_trans hz2 (Nat.le_trans (by omega) (show 1000 ≤ sizeLine by decide))
      · refine EP.mono (EP.itemT (ds := [.int wd.1, .int wd.2]) (j := 1) (d := .int wd.2) (EP.item (n := (i : Int)) (d := pairD wd) (EP.loc ((upd_ne (by decide)).trans ((upd_ne (by decide)).trans ((upd_ne (by decide)).trans e2))) (hvw.mono ((s₁.trans s).trans s3))) (EP.loc ((upd_ne (by decide)).trans ((upd_ne (by decide)).trans upd_self)) rt.isI) (by omega) (by omega) ?_) EP.int (by decide) (by decide) (by rfl) rfl) fun v h => h.isI
        rw [Int.toNat_natCast, List.getElem?_map, hwd]; rfl
      · have : (Builtin.Int.intBits unit : Int) * wd.2 ≤ 64 * 100 := Int.mul_le_mul (by omega) hbw.2 hbw.1 (by decide)
        omega
      · rintro g4 k4 m4 s4 ⟨rfl, rfl, ob', hd', rfl⟩
        refine EX.nil ⟨rfl, (upd_ne (by decide)).trans ((upd_ne (by decide)).trans ((upd_ne (by decide)).trans e1)), (upd_ne (by decide)).trans ((upd_ne (by decide)).trans ((upd_ne (by decide)).trans e2)), (upd_ne (by decide)).trans ((upd_ne (by decide)).trans ((upd_ne (by decide)).trans e3)), (upd_ne (by decide)).trans ((upd_ne (by decide)).trans ((upd_ne (by decide)).trans e4)), ob', setk_self, ?_⟩
        have hzip : (rows.zip ws)[i]? = some (row, wd) := by rw [List.getElem?_zip_eq_some]; exact ⟨hrow, hwd⟩
        rw [List.take_add_one, hzip, List.foldl_append]
        exact hd'
  · rintro g' k' m' s ⟨e1, e2, e3, e4, ob, eo, kvs, hk, hiv⟩
    rw [enum_len, List.length_map, List.take_of_length_le (by rw [List.length_zip]; omega)] at hiv
    refine EX.ret (R₁ := fun _ v => v = .ref a) (EP.toV (EP.loc e4 rfl)) fun g3 v s3 dis hv => ?_
    subst hv
    refine ⟨.dct (joinB_r dis _ _ eo) hk hiv, fun e => ?_⟩
    cases e
    rw [beq_self_eq_true] at hS; cases hS
end Mine
end
/-! P10 -/
section
open PySem PySem.W PyProof.Rows PySem.Calls
namespace Mine
noncomputable def signs (x : Str) : List Str := x.cps.toList.map fun c => ⟨#[c]⟩
section
variable {prog : Program} {w : World} {A : Around} {env : Env} {g k : Bs} {m : Mp}
theorem EI.str {iter target : Expr} {x : Str} (hh : A.handled = .none) (ha : x.cps.all (· < 128) = true) (he : EP prog w A env g k m iter (isS x)) (ht : ∀ I v, letOwnedTupleGo target (.ref I) v = pure () := by intro _ _; rfl) : EI prog w A env g k m iter target ((signs x).map fun y => .one (.str y)) := fun s Q S hq => by
  refine he s _ S fun v h' tk l ⟨t, e⟩ => ?_
  subst e
  refine wpAny_pyIter_ascii (s := ⟨h', s.gens, s.drawn, tk, s.os⟩) ha ?_
  have nw : h'.get? h'.objs.size = .none := Heap.get?_none_of_le (Nat.le_refl _)
  have og : g h'.objs.size = .none := by
    cases q : g h'.objs.size with
    | none => rfl
    | some o => have := l _ _ (S.leg _ _ q); rw [nw] at this; cases this
  refine hq g h'.objs.size [h'.objs.size] [h'.objs.size] _ _ _ (.leH S.leg (l.trans (.push _))) (.ofWalks (Walks.strAscii hh h'.objs.size x t) (by simp [signs]) ?_ ?_ ⟨_, Heap.get?_push_size _ rfl, rfl, rfl⟩ ?_ ?_ ?_ ?_)
  · rintro i it v hi ⟨c, u, hc, rfl⟩ h _
    rw [signs, List.map_map, List.getElem?_map, Array.getElem?_toList, hc] at hi
    cases hi
    exact .str _ _
  · intro b hb; rw [List.mem_singleton.mp hb]; exact og
  · intro b hb
    rw [List.mem_singleton.mp hb]
    cases q : s.heap.get? h'.objs.size with
    | none => rfl
    | some o => have := l _ _ q; rw [nw] at this; cases this
  · intro b hb; exact .inl hb
  · rintro i h ⟨o, ho, _⟩ b hb; rw [List.mem_singleton.mp hb]; exact ⟨o, ho⟩
  · intro i v s' Q' hT hq'
    rw [ht]
    exact wpAny_pure hq'
end
/-- a str of figures -/
noncomputable def figS (l : List Nat) : Str := ⟨(l.map (48 + ·)).toArray⟩
noncomputable def dealS (first : Str) (l : List Nat) : Str := Txt.join "" (l.map fun (p : Nat) => Txt.item first (p : Int))
noncomputable def bothStep (first : Str × Int) (acc : List (Str × Int)) (second : List Nat × Int) : List (Str × Int) := setI acc (dealS first.1 second.1) (getI acc (dealS first.1 second.1) 0 + first.2 * second.2)
noncomputable def bothL (firsts : List (Str × Int)) (seconds : List (List Nat × Int)) : List (Str × Int) := firsts.foldl (fun acc f => seconds.foldl (bothStep f) acc) []
theorem fig_int : ∀ p, p < 4 → PySem.intText? (⟨#[48 + p]⟩ : Str) = some ((p : Nat) : Int) := by decide +kernel
theorem fig_ascii {l : List Nat} (h : ∀ p ∈ l, p < 4) : (figS l).cps.all (· < 128) = true := by
  simp only [figS, List.all_toArray, List.all_eq_true, List.mem_map]
  rintro x ⟨p, hp, rfl⟩
  have := h p hp
  simp; omega
theorem signs_fig (l : List Nat) : signs (figS l) = l.map fun p => (⟨#[48 + p]⟩ : Str) := by simp [signs, figS]
theorem both_len (f : Str × Int) : ∀ (l : List (List Nat × Int)) (acc : List (Str × Int)), (l.foldl (bothStep f) acc).length ≤ acc.length + l.length
  | [], acc => by simp
  | p :: r, acc => by
    rw [List.foldl_cons, List.length_cons]
    have h1 := both_len f r (bothStep f acc p)
    have h2 : (bothStep f acc p).length ≤ acc.length + 1 := setI_len acc _ _
    omega
theorem both_len2 (seconds : List (List Nat × Int)) : ∀ (l : List (Str × Int)) (acc : List (Str × Int)), (l.foldl (fun acc f => seconds.foldl (bothStep f) acc) acc).length ≤ acc.length + l.length * seconds.length
  | [], acc => by simp
  | p :: r, acc => by
    rw [List.foldl_cons, List.length_cons, Nat.succ_mul]
    have h1 := both_len2 seconds r (seconds.foldl (bothStep p) acc)
    have h2 := both_len p seconds acc
    omega
theorem both_ok {prog : Program} {w : World} {g : Bs} (B : Base w g) {firsts : List (Str × Int)} {seconds : List (List Nat × Int)} (hz1 : firsts.length ≤ 1000) (hz2 : seconds.length ≤ 1000) (hf : ∀ p ∈ firsts, p.1.length ≤ 4 ∧ Builtin.Int.intBits p.2 ≤ 2 ^ 20) (hs : ∀ q ∈ seconds, q.1.length ≤ 4 ∧ Builtin.Int.intBits q.2 ≤ 2 ^ 20 ∧ ∀ x ∈ q.1, x < 4 ∧ ∀ p ∈ firsts, x < p.1.length)
    {vf vs : Value} (hvf : Rp prog w g vf (.dct firsts) ∧ vf ≠ .ref sysModules) (hvs : Rp prog w g vs (.dct (seconds.map fun q => (figS q.1, q.2))) ∧ vs ≠ .ref sysModules) :
    FS prog w 1 100 [vf, vs] [] g (fun g' v => Rp prog w g' v (.dct (bothL firsts seconds)) ∧ v ≠ .ref sysModules) := by
  refine FS.body (binds := [("firsts", vf), ("seconds", vs)]) (B.at rfl) (by rfl) (B.code rfl) B.lim (BD.of_eq (by rfl)) (by rfl) (by decide) ?_
  intro A L k hh hdp hcells
  obtain ⟨oc, kc, hoc⟩ := hcells "first" (L + 1) rfl
  have hoc' : oc.data = .cell none := hoc
  refine EX.then (E1.setM EM.nilDictB) fun g₁ k₁ m₁ s₁ r => ?_
  obtain ⟨v₁, ⟨rfl, a, ka, hlow, rfl, rfl⟩, rfl⟩ := r
  have hS := B.noMods hlow
  have hne : L + 1 ≠ a := fun e => by rw [e, ka] at kc; cases kc
  refine EX.for (its := firsts.map fun p => .tup [.str p.1, .int p.2]) (fun i g' k' m' => m' "seconds" = some vs ∧ m' "both" = some (.ref a) ∧ (∃ o v₀, k' (L + 1) = some o ∧ o.data = .cell v₀) ∧ ∃ ob, k' a = some ob ∧ DK prog w ob ((firsts.take i).foldl (fun acc f => seconds.foldl (bothStep f) acc) [])) ?_ ?_ ?_ ?_
  · exact EI.items hh (EP.loc (v := vf) rfl hvf)
  · exact fun g' s => ⟨rfl, rfl, ⟨oc, none, by rw [setk_ne hne]; exact kc, hoc'⟩, _, setk_self, DK.nil⟩
  · rintro i it g' k' m' s hi ⟨e2, e3, ⟨oc1, v0, ek, hd0⟩, ob, eo, hd⟩
    rw [List.getElem?_map] at hi
    obtain ⟨p, hp, rfl⟩ := Option.map_eq_some_iff.mp hi
    have hpf := hf p (List.mem_of_getElem? hp)
    refine EA.two (R₁ := fun g2 k2 m2 => g2 = g' ∧ m2 = m' ∧ ∃ v o', isS p.1 v ∧ o'.data = .cell (some v) ∧ k2 = setk k' (L + 1) o') hh ?_ ?_
    · refine EA.mono (EA.nameC (c := L + 1) rfl ek hd0) ?_
      rintro g2 k2 m2 s2 ⟨rfl, rfl, v, o', r, h1, rfl⟩
      exact ⟨rfl, rfl, v, o', r.isS, h1, rfl⟩
    · rintro g2 k2 m2 s2 ⟨rfl, rfl, vfi, oc2, hvfi, hoc2, rfl⟩
      refine EA.mono EA.name ?_
      rintro g3 k3 m3 s3 ⟨rfl, rfl, vwt, rwt, rfl⟩
      have ea2 : setk k' (L + 1) oc2 a = some ob := by rw [setk_ne (Ne.symm hne)]; exact eo
      have B₂ := B.mono s
      have key : ∀ (l : List (Str × Int)), l.length ≤ 1000 → (l.foldl (fun acc f => seconds.foldl (bothStep f) acc) []).length ≤ 1000 * 1000 := fun l hl => by
        have h1 := both_len2 seconds l []
        simp only [List.length_nil] at h1
        have h2 : l.length * seconds.length ≤ 1000 * 1000 := Nat.mul_le_mul hl hz2
        omega
      refine EX.for (its := (seconds.map fun q => (figS q.1, q.2)).map fun p => .tup [.str p.1, .int p.2]) (fun j g4 k4 m4 => m4 "seconds" = some vs ∧ m4 "both" = some (.ref a) ∧ m4 "weight" = some vwt ∧ k4 (L + 1) = some oc2 ∧ ∃ ob, k4 a = some ob ∧ DK prog w ob ((seconds.take j).foldl (bothStep p) ((firsts.take i).foldl (fun acc f => seconds.foldl (bothStep f) acc) []))) ?_ ?_ ?_ ?_
      · exact EI.items hh (EP.loc (v := vs) ((upd_ne (by decide)).trans e2) ⟨hvs.1.mono s, hvs.2⟩)
      · exact fun g4 s4 => ⟨(upd_ne (by decide)).trans e2, (upd_ne (by decide)).trans e3, upd_self, setk_self, ob, ea2, hd⟩
      · rintro j it g4 k4 m4 s4 hj ⟨f2, f3, f4, f5, ob4, eo4, hd4⟩
        rw [List.getElem?_map, List.getElem?_map] at hj
        obtain ⟨p0, hp0, rfl⟩ := Option.map_eq_some_iff.mp hj
        obtain ⟨q, hq, rfl⟩ := Option.map_eq_some_iff.mp hp0
        have hqs := hs q (List.mem_of_getElem? hq)
        refine EA.mono (EA.names2 hh) ?_
        rintro g5 k5 m5 s5 ⟨rfl, rfl, v2, vc, r2, rc, rfl⟩
        have B₅ := B₂.mono s4
        refine EX.then (E1.set (R := fun _ v => isS (dealS p.1 q.1) v) (EV.joinS (xs := q.1.map fun (x : Nat) => Txt.item p.1 (x : Int)) ?_ (CKM.ev (CK.one (its := (signs (figS q.1)).map fun y => .one (.str y)) ?_ ?_ ?_ ?_)))) ?_
        · have : (q.1.map fun (x : Nat) => Txt.item p.1 (x : Int)).map (·.length) = List.replicate q.1.length 1 := by
            rw [List.map_map, List.eq_replicate_iff]
            refine ⟨by simp, fun b hb => ?_⟩
            obtain ⟨x, _, rfl⟩ := List.mem_map.mp hb
            exact PyProof.Rows.len_item _ _
          rw [this, List.sum_replicate_nat]; omega
        · simp [signs, figS]
        · simp only [List.length_map]; exact Nat.le_trans hqs.1 (by decide)
        · exact EI.str hh (fig_ascii fun x hx => (hqs.2.2 x hx).1) (EP.loc ((upd_ne (by decide)).trans upd_self) r2.isS)
        · intro C jj it d g6 k6 m6 s6 sk hjj hd6
          rw [signs_fig, List.map_map, List.getElem?_map] at hjj
          rw [List.getElem?_map, List.getElem?_map] at hd6
          obtain ⟨x, hx, rfl⟩ := Option.map_eq_some_iff.mp hjj
          rw [hx] at hd6
          cases hd6
          have hx4 := hqs.2.2 x (List.mem_of_getElem? hx)
          have hxp := hx4.2 p (List.mem_of_getElem? hp)
          refine EA.mono EA.name ?_
          rintro g7 k7 m7 s7 ⟨rfl, rfl, vg, rg, rfl⟩
          have hc6 : k7 (L + 1) = some oc2 := sk _ _ f5
          refine ⟨rfl, EV.S (EP.itemS (EP.cell (c := L + 1) (o := oc2) rfl (.inl hc6) hoc2 hvfi) (EP.intText (fig_int x hx4.1) (by show 1 ≤ 640; decide) (EP.bi (B₅.mono s6)) (EP.loc upd_self rg.isS)) (by omega) (by omega) (by omega))⟩
        · rintro g6 k6 m6 s6 ⟨rfl, v6, hv6, rfl⟩
          have hz6 : ((seconds.take j).foldl (bothStep p) ((firsts.take i).foldl (fun acc f => seconds.foldl (bothStep f) acc) [])).length ≤ sizeLine := by
            have h1 := both_len p (seconds.take j) ((firsts.take i).foldl (fun acc f => seconds.foldl (bothStep f) acc) [])
            have h2 := key (firsts.take i) (by rw [List.length_take]; omega)
            have h3 : (seconds.take j).length ≤ 1000 := by rw [List.length_take]; omega
            have : sizeLine = 16777216 := rfl
            omega
          have up3 : ∀ {v v' v'' : Value} {x : Str}, x ≠ "order" → x ≠ "count" → x ≠ "second" → upd (upd (upd m4 "second" v) "count" v') "order" v'' x = m4 x := fun h1 h2 h3 => (upd_ne h1).trans ((upd_ne h2).trans (upd_ne h3))
          refine EX.then (E1.dset (x := dealS p.1 q.1) (v := getI ((seconds.take j).foldl (bothStep p) ((firsts.take i).foldl (fun acc f => seconds.foldl (bothStep f) acc) [])) (dealS p.1 q.1) 0 + p.2 * q.2) (EP.loc ((up3 (by decide) (by decide) (by decide)).trans f3) rfl) eo4 hd4 hz6 (EP.add (EP.dget (EP.loc ((up3 (by decide) (by decide) (by decide)).trans f3) rfl) (.inl eo4) hd4 hS (EP.loc upd_self hv6) EP.int) (EP.mul (EP.loc ((up3 (by decide) (by decide) (by decide)).trans f4) rwt.isI) (EP.loc ((upd_ne (by decide)).trans upd_self) rc.isI) (.of_bits hpf.2 hqs.2.1))) (EP.loc upd_self hv6)) ?_
          rintro g7 k7 m7 s7 ⟨rfl, rfl, ob', hd', rfl⟩
          refine EX.nil ⟨rfl, (up3 (by decide) (by decide) (by decide)).trans f2, (up3 (by decide) (by decide) (by decide)).trans f3, (up3 (by decide) (by decide) (by decide)).trans f4, by rw [setk_ne hne]; exact f5, ob', setk_self, ?_⟩
          rw [List.take_add_one, hq, List.foldl_append]
          exact hd'
      · rintro g4 k4 m4 s4 ⟨f2, f3, f4, f5, ob4, eo4, hd4⟩
        rw [List.length_map, List.length_map, List.take_of_length_le (Nat.le_refl _)] at hd4
        refine EX.nil ⟨rfl, f2, f3, ⟨oc2, _, f5, hoc2⟩, ob4, eo4, ?_⟩
        rw [List.take_add_one, hp, List.foldl_append]
        exact hd4
  · rintro g' k' m' s ⟨e2, e3, _, ob, eo, kvs, hk, hiv⟩
    rw [List.length_map, List.take_of_length_le (Nat.le_refl _)] at hiv
    refine EX.ret (R₁ := fun _ v => v = .ref a) (EP.toV (EP.loc e3 rfl)) fun g3 v s3 dis hv => ?_
    subst hv
    refine ⟨.dct (joinB_r dis _ _ eo) hk hiv, fun e => ?_⟩
    cases e
    rw [beq_self_eq_true] at hS; cases hS
end Mine
end
/-! M21 -/
section
open PySem PySem.W PyProof.Rows PySem.Calls
namespace Mine
noncomputable def delk (k : Bs) (c : Addr) : Bs := fun b => if b = c then none else k b
theorem delk_self {k : Bs} {c : Addr} : delk k c c = none := if_pos rfl
theorem delk_ne {k : Bs} {c b : Addr} (h : b ≠ c) : delk k c b = k b := if_neg h
/-- a thing that might turn is held to stand -/
theorem St.freeze {L : Addr} {g k : Bs} {m : Mp} {h : Heap} {c : Addr} {o : Obj} (S : St L g k m h) (e : k c = some o) : St L (setk g c o) (delk k c) m h := by
  have hL : L ≠ c := fun q => by subst q; rw [S.offk] at e; cases e
  refine ⟨S.ns, fun b ob x => ?_, fun b ob x => ?_, fun b ob x => ?_, by rw [setk_ne hL]; exact S.offg, by rw [delk_ne hL]; exact S.offk⟩
  · unfold setk at x
    split at x
    · rename_i q; subst q; cases x; exact S.lek _ _ e
    · exact S.leg b ob x
  · unfold delk at x
    split at x
    · cases x
    · exact S.lek b ob x
  · unfold delk
    split
    · rfl
    · rename_i q; rw [setk_ne q] at x; exact S.dis b ob x
theorem Ext.unfreeze {L : Addr} {g k g' k' : Bs} {m' : Mp} {h h' : Heap} {c : Addr} {o : Obj} (X : Ext L (setk g c o) (delk k c) h g' k' m' h') (e : k c = some o) (n : g c = none) : Ext L g k h g' k' m' h' := by
  refine ⟨X.st, (SubB.setk n).trans X.sub, fun b ob x y z => X.pres b ob x ?_ z, fun b ob x y => ?_, fun b ob x y => X.newk b ob x ?_⟩
  · unfold delk; split <;> first | rfl | exact y
  · by_cases q : b = c
    · subst q; rw [e]; exact .inr rfl
    · rcases X.newg b ob x (by rw [setk_ne q]; exact y) with r | r
      · exact .inl r
      · rw [delk_ne q] at r; exact .inr r
  · unfold delk; split <;> first | rfl | exact y
section
variable {prog : Program} {w : World} {A : Around} {env : Env} {g k : Bs} {m : Mp}
theorem EX.freeze {ss : List Stmt} {R : Bs → Bs → Mp → Flow → Prop} {c : Addr} {o : Obj} (e : k c = some o) (h : g c = none → EX prog w A env (setk g c o) (delk k c) m ss R) : EX prog w A env g k m ss R := fun s Q S hq => by
  have n : g c = none := by
    cases q : g c with
    | none => rfl
    | some o' => have := S.dis _ _ q; rw [e] at this; cases this
  exact h n s Q (S.freeze e) fun f g' k' m' h' tk X r => hq f g' k' m' h' tk (X.unfreeze e n) r
theorem EP.itemK {v i : Expr} {pos : Pos} {Y : Addr} {vs : List Value} {n : Nat} {y : Value} {j : Nat} (hv : EP prog w A env g k m v (isV (.ref Y))) (hY : k Y = some (lstO vs n)) (hi : EP prog w A env g k m i (isI (j : Int))) (h1 : (j : Int) < 2 ^ 63) (hy : vs[j]? = some y)
    (hs : ∀ o x, subscripted i false o x = operate [o, x] (getItem o x) := by intro _ _; with_unfolding_all rfl) :
    EP prog w A env g k m (.Subscript v i pos) (isV y) :=
  .sub' hv hi fun o x s Q ro ⟨t, ex⟩ S hq => by
    have ro' : o = .ref Y := ro
    subst ex ro'
    have hL : s.heap.IsList _ _ := ⟨_, S.lek _ _ hY, rfl, _, rfl⟩
    exact tail_any hL.typeIs slot_list_getitem.lookup (wpAny_getItem_list hL (by omega) h1 (by simpa using hy) (hq _ s.toks rfl)) (hs _ _)
theorem EP.lenK {np pos : Pos} {e : Expr} {Y : Addr} {vs : List Value} {n : Nat} (hf : EP prog w A env g k m (.Name "len" np) (isV (.builtin "len"))) (he : EP prog w A env g k m e (isV (.ref Y))) (hY : k Y = some (lstO vs n)) (hsz : vs.length < 2 ^ 62) (hst : starEach [e] env = (false, eval e env) :: starEach [] env := by rfl) (hpl : ((backTo pos (starEach [e] env)).any (·.1) || (backToKw pos (keywordEach [] env)).any (·.1.isNone)) = false := by rfl) :
    EP prog w A env g k m (.Call (.Name "len" np) [e] [] pos) (isI (vs.length : Int)) := .fn1 hf trivial he (fun v s Q r lg lk hq => by
      have r' : v = .ref Y := r
      subst r'
      exact call_len_list (items := vs.toArray) ⟨_, lk _ _ hY, rfl, _, rfl⟩ (by rw [List.size_toArray]; omega) (hq _ _ ⟨_, by rw [List.size_toArray]⟩)) hst hpl
theorem CO.isNone {a b : Value} (hb : isV .none b) : isV .none a → CO prog w A .Is a b true := by
  intro ha s Q h
  have ha' : a = .none := ha
  have hb' : b = .none := hb
  subst ha' hb'
  exact PyProof.Rows.is_none_none (h s.toks)
theorem CO.notNone {a b : Value} (hb : isV .none b) (ha : a ≠ .none) : CO prog w A .Is a b false := by
  intro s Q h
  have hb' : b = .none := hb
  subst hb'
  exact PyProof.Rows.is_none_ne ha (h s.toks)
theorem insert_at {s : Shared} {Y : Addr} {vs : List Value} {n i : Nat} {x : Int} {t : Tok} {v : Value} {Q : Value → Shared → Prop} (hx : x = (i : Int)) (ho : s.heap.get? Y = some (lstO vs n)) (hsz : vs.length ≤ 1000) (hi : i ≤ vs.length)
    (h : ∀ h' n', Heap.SameBut Y s.heap h' → h'.get? Y = some (lstO (vs.take i ++ v :: vs.drop i) n') → Q .none { s with heap := h' }) : wpAny (model prog w) A (PySem.call (.builtin "list.insert") [.ref Y, .int x t, v]) Q nE s := by
  have hfit : Builtin.List.listFitsIndex x = true := by
    simp only [Builtin.List.listFitsIndex, Bool.and_eq_true, decide_eq_true_eq]; omega
  have hz : vs.toArray.size ≤ sizeLine := by
    have e : vs.toArray.size = vs.length := List.size_toArray
    have e2 : sizeLine = 16777216 := sizeLine_eq
    omega
  have hm := PySem.AutoSeq1.list_insert_list_int_val_1 Y vs.toArray n x t v (by rw [hfit]; exact Bool.false_ne_true) hz
  refine call_meets F.slot_list_insert ⟨_, ho, rfl⟩ F.entry_list_insert (F.args_list_insert_3 _ _ _) hm ⟨ho, ?_⟩
  generalize hf : (fun xs : Array Value => have k := if x < 0 then (x + (xs.size : Int)).toNat else min x.toNat xs.size; (xs.extract 0 k).push v ++ xs.extract k) = f
  have hup := PySem.IsL.update (l := Y) (items := vs.toArray) (n := n) ho f
  have hfv : f vs.toArray = (vs.take i ++ v :: vs.drop i).toArray := by
    rw [← hf]
    dsimp only
    rw [hx, if_neg (by omega), Int.toNat_natCast, List.size_toArray, Nat.min_eq_left hi]
    apply Array.toList_inj.mp
    simp
    exact List.take_of_length_le (by simp)
  rw [hfv] at hup
  exact h _ _ (Heap.SameBut.update ..) hup
/-- x.insert(i, e), of a list that may turn -/
theorem E1.insert {x : Str} {np apos cpos pos : Pos} {e₁ e₂ : Expr} {Y : Addr} {vs : List Value} {n i : Nat} {R : Bs → Value → Prop} (hx : EP prog w A env g k m (.Name x np) (isV (.ref Y))) (hY : k Y = some (lstO vs n)) (hsz : vs.length ≤ 1000) (hi' : i ≤ vs.length) (h₁ : EP prog w A env g k m e₁ (isI (i : Int))) (h₂ : EV prog w A env g k m e₂ R)
    (hi : interactive env = false := by rfl) (hs : swapsWith (.Call (.Attribute (.Name x np) "insert" apos) [e₁, e₂] [] cpos) Option.none pos.line env = pure false := by rfl)
    (hb : attributeBase (.Name x np) "insert" env (eval (.Name x np) env) = eval (.Name x np) env := by rfl)
    (hfew : (((backTo cpos (starEach [e₁, e₂] env)).all (fun x => !x.1) && (backToKw cpos (keywordEach [] env)).all (fun x => x.1.isSome)) && decide (([e₁, e₂] : List Expr).length + ([] : List Keyword).length + (if ([] : List Keyword).isEmpty = true then 0 else 1) < 30)) = true := by rfl)
    (hl : (apos.endLine == cpos.line) = true := by rfl) (hst : starEach [e₁, e₂] env = (false, eval e₁ env) :: starEach [e₂] env := by rfl) (hst' : starEach [e₂] env = (false, eval e₂ env) :: starEach [] env := by rfl) (hpl : (backTo cpos (starEach [e₁, e₂] env)).any (·.1) = false := by rfl) :
    E1 prog w A env g k m (.Expr (.Call (.Attribute (.Name x np) "insert" apos) [e₁, e₂] [] cpos) pos) (Nx fun g' k' m' => m' = m ∧ ∃ v n', R g' v ∧ k' = setk k Y (lstO (vs.take i ++ v :: vs.drop i) n')) :=
  E1.expr (fun s Q S hq => by
    refine wpAny_Call_method_late hb hfew hl rfl (hx s _ S fun ov h' tk l r => ?_)
    have r' : ov = .ref Y := r
    subst r'
    have S' := S.leH l
    refine ⟨"list", "list.insert", F.plainAttrs_list, F.slot_list_insert, F.type_list_insert, ⟨_, S'.lek _ _ hY, rfl⟩, (fun a ea => by cases ea; exact ⟨_, S'.lek _ _ hY, rfl⟩), callWith_builtin hpl ?_⟩
    rw [hst, hst']
    refine evalArgs_plain (spliced_cons (h₁ ⟨h', s.gens, s.drawn, tk, s.os⟩ _ S' fun v₁ h₁' tk₁ l₁ ⟨t₁, ev₁⟩ => spliced_cons (h₂ ⟨h₁', s.gens, s.drawn, tk₁, s.os⟩ _ (S'.leH l₁) fun g' v h'' tk'' G r => spliced_nil ?_)))
    subst ev₁
    have S'' := (S'.leH l₁).grow G
    have hin : h''.get? Y = some (lstO vs n) := S''.lek _ _ hY
    show wpAny _ _ (PySem.call (.builtin "list.insert") [.ref Y, .int (i : Int) t₁, v] []) _ _ _
    refine insert_at (s := ⟨h'', s.gens, s.drawn, tk'', s.os⟩) rfl hin hsz hi' fun h2 n' hsb hup => ?_
    exact hq _ g' _ m h2 tk'' (((Ext.grow S (.leH S.leg (l.trans l₁))).trans (.grow (S'.leH l₁) G) (ns_some S.ns) S.offk S.offg).trans (.turn S'' hY hsb hup) (ns_some S.ns) S.offk S.offg) ⟨rfl, v, _, r, rfl⟩) hi hs
/-- a call with one argument by its name -/
theorem EM.callKw {f kn : Str} {np pos kp : Pos} {e kv : Expr} {es : List Expr} {fv : Value} {RL : Bs → List Value → Prop} {RK : List Value → Bs → Bs → Value → Prop} {R : Bs → Bs → Value → Prop} (hf : EP prog w A env g k m (.Name f np) (isV fv)) (hk : Kp g fv) (ha : EL prog w A env g k m (e :: es) RL)
    (hkv : ∀ g' vs, SubB g g' → RL g' vs → EM prog w A env g' k m kv (RK vs)) (hc : ∀ vs g' k' v, SubB g g' → RK vs g' k' v → CM prog w A env.locals g' k' m fv vs [(kn, v)] R)
    (hst : starEach (e :: es) env = (false, eval e env) :: starEach es env := by rfl) (hpl : ((backTo pos (starEach (e :: es) env)).any (·.1) || (backToKw pos (keywordEach [⟨some kn, kv, kp⟩] env)).any (·.1.isNone)) = false := by rfl)
    (hall : (backToKw pos (keywordEach [⟨some kn, kv, kp⟩] env)).all (·.1.isSome) = true := by rfl) :
    EM prog w A env g k m (.Call (.Name f np) (e :: es) [⟨some kn, kv, kp⟩] pos) R := fun s Q S hq => by
  refine wpAny_Call_ofName (hf s _ S fun v h' tk l r => ?_)
  have hv : v = fv := r
  subst hv
  refine callWith_of (P := fun h => LeB g h) hpl (fun h x => hk.looks h x) ?_
  refine evalArgs_kw2 hall ?_ hst
  have S' := S.leH l
  refine ha pos ⟨h', s.gens, s.drawn, tk, s.os⟩ _ S' fun g' vs h'' tk'' G2 r2 => ?_
  have S2 := S'.grow G2
  refine kwAll_cons (hkv g' vs G2.sub r2 ⟨h'', s.gens, s.drawn, tk'', s.os⟩ _ S2 fun g3 k3 v3 h3 tk3 X3 r3 => kwAll_nil ?_)
  have S3 := X3.st S2
  refine ⟨fun b o x => X3.leg b o (X3.sub b o (G2.sub b o x)), ?_⟩
  exact hc vs g3 k3 v3 (G2.sub.trans X3.sub) r3 ⟨h3, s.gens, s.drawn, tk3, s.os⟩ _ S3 fun g4 k4 v4 h4 tk4 X4 r4 => hq _ _ _ _ _ ((((ExE.ofGr S (Gr.leH S.leg l)).trans (ExE.ofGr S' G2)).trans X3).trans X4) r4
theorem E1.exprM {e : Expr} {pos : Pos} {R : Bs → Bs → Value → Prop} (he : EM prog w A env g k m e R)
    (hi : interactive env = false := by rfl) (hs : swapsWith e none pos.line env = pure false := by rfl) : E1 prog w A env g k m (.Expr e pos) (Nx fun g' k' m' => m' = m ∧ ∃ v, R g' k' v) :=
  E1.expr (fun s Q S hq => he s _ S fun g' k' v h' tk x r => hq v g' k' m h' tk (x.ext S) ⟨rfl, v, r⟩) hi hs
end
end Mine
end
/-! M22 -/
section
open PySem PySem.W PyProof.Rows PySem.Calls
namespace Mine
/-- a code that stands, by its name -/
noncomputable def CR (g : Bs) (c : Addr) (q : Str) : Prop := ∃ oc vs t, g c = some oc ∧ oc.data = .fields vs ∧ vs[1]? = some (.str q t)
theorem CR.at {g : Bs} {c : Addr} {q : Str} (x : CR g c q) (h : Heap) (l : LeB g h) : h.CodeRec (.ref c) q := let ⟨oc, vs, t, a, b, d⟩ := x; ⟨c, oc, vs, t, rfl, l _ _ a, b, d⟩
theorem CR.mono {g g' : Bs} {c : Addr} {q : Str} (x : CR g c q) (s : SubB g g') : CR g' c q := let ⟨oc, vs, t, a, b, d⟩ := x; ⟨oc, vs, t, s _ _ a, b, d⟩
/-- a table of the codes of what a def makes -/
noncomputable def TabOk (q : Str) (g : Bs) (ps : Array Value) : Prop := TriplesOk ps.toList ∧ ∀ pos, codeAmong pos ps.toList = none ∨ ∃ c, codeAmong pos ps.toList = some (.ref c) ∧ CR g c q
theorem TabOk.mono {q : Str} {g g' : Bs} {ps : Array Value} (x : TabOk q g ps) (s : SubB g g') : TabOk q g' ps := ⟨x.1, fun pos => (x.2 pos).imp id fun ⟨c, a, b⟩ => ⟨c, a, b.mono s⟩⟩
theorem TabOk.nil {q : Str} {g : Bs} : TabOk q g #[] := ⟨trivial, fun _ => .inl rfl⟩
theorem codeAmong_more {pos : Pos} {a b : Int} {c : Value} : ∀ (l : List Value), TriplesOk l → codeAmong pos (l ++ [rawInt a, rawInt b, c]) = (match codeAmong pos l with | some v => some v | none => if a == pos.line && b == pos.col then some c else none) := fun l h => by
  fun_induction TriplesOk l with
  | case1 => simp [codeAmong, rawInt]
  | case2 a' t b' u x rest ih =>
    simp only [List.cons_append, codeAmong]
    by_cases hc : (a' == pos.line && b' == pos.col) = true
    · rw [if_pos hc, if_pos hc]
    · rw [if_neg hc, if_neg hc]; exact ih h
  | case3 l h1 h2 => exact h.elim
theorem TabOk.more {q : Str} {g : Bs} {ps : Array Value} {a b : Int} {c : Addr} (x : TabOk q g ps) (h : CR g c q) : TabOk q g (ps ++ #[rawInt a, rawInt b, .ref c]) := by
  refine ⟨by rw [Array.toList_append]; exact TriplesOk_snoc _ _ _ _ x.1, fun pos => ?_⟩
  rw [Array.toList_append]
  show codeAmong pos (ps.toList ++ [rawInt a, rawInt b, .ref c]) = none ∨ _
  rw [codeAmong_more _ x.1]
  rcases x.2 pos with e | ⟨c', e, y⟩
  · rw [e]
    dsimp only
    split
    · exact .inr ⟨c, rfl, h⟩
    · exact .inl rfl
  · rw [e]; exact .inr ⟨c', rfl, y⟩
/-- new things beside one that turns -/
theorem ExE.lay {L : Addr} {g k : Bs} {m : Mp} {h h' : Heap} {P : Addr} {o o' : Obj} {N : Bs} (S : St L g k m h) (hP : k P = some o) (hx : ∀ b ob, b ≠ P → h.get? b = some ob → h'.get? b = some ob) (hP' : h'.get? P = some o') (hN : ∀ b ob, N b = some ob → h'.get? b = some ob ∧ h.get? b = none) :
    ExE g k h (joinB g N) (setk k P o') h' := by
  have Ng : ∀ b ob, N b = some ob → g b = none := fun b ob e => by
    cases q : g b with
    | none => rfl
    | some o2 => have := (hN b ob e).2; rw [S.leg b o2 q] at this; cases this
  have Nk : ∀ b ob, N b = some ob → k b = none := fun b ob e => by
    cases q : k b with
    | none => rfl
    | some o2 => have := (hN b ob e).2; rw [S.lek b o2 q] at this; cases this
  have gP : g P = none := by
    cases q : g P with
    | none => rfl
    | some o2 => have := S.dis _ _ q; rw [hP] at this; cases this
  refine ⟨fun b ob e => ?_, fun b ob e => ?_, fun b ob e => ?_, joinB_l, fun b ob e n => hx b ob (fun q => by subst q; rw [hP] at n; cases n) e, fun b ob e n => ?_, fun b ob e n => ?_⟩
  · rcases joinB_of e with e | e
    · exact hx b ob (fun q => by subst q; rw [gP] at e; cases e) (S.leg b ob e)
    · exact (hN b ob e).1
  · unfold setk at e
    split at e
    · rename_i q; subst q; cases e; exact hP'
    · rename_i q; exact hx b ob q (S.lek b ob e)
  · have bP : b ≠ P := fun q => by
      subst q
      rcases joinB_of e with e | e
      · rw [gP] at e; cases e
      · rw [Nk _ _ e] at hP; cases hP
    rw [setk_ne bP]
    exact (joinB_of e).elim (S.dis b ob) (Nk b ob)
  · rcases joinB_of e with e | e
    · rw [n] at e; cases e
    · exact .inl (hN b ob e).2
  · unfold setk at e
    split at e
    · rename_i q; subst q; rw [hP] at n; cases n
    · rw [n] at e; cases e
section
variable {prog : Program} {w : World} {A : Around} {env : Env} {g k : Bs} {m : Mp}
theorem EM.lam {params : Arguments} {body : Expr} {scope : Scope} {pos : Pos} {c P : Addr} {ps : Array Value} {clos : List (Str × Addr)} {q : Str} (B : Base w g) (hP : k P = some (tabObj ps)) (hT : TabOk q g ps)
    (hq : env.qual ++ "<lambda>" = q := by rfl) (hC : codeHdIn (hd.heap_39 w.params) c P = true := by rfl) (hdef : defaultsOf params env = ([], []) := by rfl) (hcl : closureFor scope env = pure clos := by rfl) (hge0 : env.globals = mainGlobals := by rfl) (hcode : env.code = .ref c := by rfl) :
    EM prog w A env g k m (.Lambda params body scope pos) fun g' k' v => ∃ f c' ctv pm ps', v = .ref f ∧ g' f = some (kla_obj "<lambda>" q params body scope clos pm c' ctv) ∧ CR g' c' q ∧ k' = setk k P (tabObj ps') ∧ TabOk q g' ps' := fun s Q S hQ => by
  subst hq
  obtain ⟨h₀, p, loose, mean, mg, mb, up, X, T⟩ := B
  have keep : ∀ b o, h₀.get? b = some o → s.heap.get? b = some o := fun b o e => S.leg b o (up b o e)
  have CH : CodeHd s.heap c P := (codeHd_of_K X hC).keeps keep
  have hgs := T.g.keeps keep
  have hP2 : s.heap.get? P = some (tabObj ps) := S.lek _ _ hP
  obtain ⟨bm, ob, b1, b2, b3, b4, b5, b6⟩ := T.bmain
  have hgP : mainGlobals ≠ P := fun q => by
    obtain ⟨o, es, ep, e, hd, _⟩ := hgs
    rw [q, hP2] at e; cases e; cases hd
  have hbP : bm ≠ P := fun q => by
    have e := keep _ _ b3
    rw [q, hP2] at e; cases e; cases b4
  have hbG : bm ≠ mainGlobals := fun q => by
    obtain ⟨o, es, ep, e, hd, _⟩ := T.g
    rw [q, e] at b3; cases b3; rw [hd] at b6; cases b6
  have hb : s.heap.BuiltinsAt mg P := ⟨bm, ob, b1, b2, hbG, hbP, keep _ _ b3, b4, b5, b6⟩
  refine kla_eval hdef ?_
  rcases hT.2 pos with hn | ⟨c', hf, hcr⟩
  · refine kla_makeFunction (mg := mg) hcl hge0 hgs hcode CH hP2 hT.1 hn hgP hb fun c' ctv h' tk hx hge hlt hrec htb => ?_
    obtain ⟨c₂, oc, vs, t, e2, hoc, hd, hv⟩ := hrec
    cases e2
    have fo : ∀ b, s.heap.objs.size ≤ b → s.heap.get? b = none := fun b hb => Heap.get?_none_of_le hb
    let F : Obj := kla_obj "<lambda>" (env.qual ++ "<lambda>") params body scope clos ((mg "__name__").getD .none) c' ctv
    let N : Bs := setk (setk nok c' oc) h'.objs.size F
    have hfc : h'.objs.size ≠ c' := Nat.ne_of_gt hlt
    have Nc : N c' = some oc := (setk_ne (Ne.symm hfc)).trans setk_self
    have Nf : N h'.objs.size = some F := setk_self
    have pushP : (h'.push F).get? P = some (tabObj (ps ++ #[rawInt pos.line, rawInt pos.col, .ref c'])) := Heap.get?_push_of_some _ htb
    have E := ExE.lay (N := N) (h' := h'.push F) S hP (fun b ob hb e => Heap.get?_push_of_some _ (hx b ob hb e)) pushP (fun b ob e => by
      dsimp only [N] at e
      unfold setk at e
      split at e
      · rename_i q; subst q; cases e; exact ⟨Heap.get?_push_size _ rfl, fo _ (Nat.le_of_lt (Nat.lt_of_le_of_lt hge hlt))⟩
      · split at e
        · rename_i q; subst q; cases e; exact ⟨Heap.get?_push_of_some _ hoc, fo _ hge⟩
        · cases e)
    have Ng : ∀ b, s.heap.objs.size ≤ b → g b = none := fun b hb => by
      cases q : g b with
      | none => rfl
      | some o2 => have := fo b hb; rw [S.leg b o2 q] at this; cases this
    have jf : joinB g N h'.objs.size = some F := by unfold joinB; rw [Ng _ (Nat.le_of_lt (Nat.lt_of_le_of_lt hge hlt)), Nf]; rfl
    have jc : joinB g N c' = some oc := by unfold joinB; rw [Ng _ hge, Nc]; rfl
    have cr : CR (joinB g N) c' (env.qual ++ "<lambda>") := ⟨oc, vs, t, jc, hd, hv⟩
    exact hQ _ _ _ _ tk E ⟨_, c', ctv, _, _, rfl, jf, cr, rfl, (hT.mono joinB_l).more cr⟩
  · refine kla_makeFunctionHit (mg := mg) hcl hge0 hgs hcode CH hP2 hT.1 hf hb fun ctv h' tk hk hsz => ?_
    let F : Obj := kla_obj "<lambda>" (env.qual ++ "<lambda>") params body scope clos ((mg "__name__").getD .none) c' ctv
    let N : Bs := setk nok h'.objs.size F
    have Nf : N h'.objs.size = some F := setk_self
    have E := ExE.lay (N := N) (h' := h'.push F) S hP (fun b ob hb e => Heap.get?_push_of_some _ (hk b ob e)) (Heap.get?_push_of_some _ (hk _ _ hP2)) (fun b ob e => by
      dsimp only [N] at e
      unfold setk at e
      split at e
      · rename_i q; subst q; cases e; exact ⟨Heap.get?_push_size _ rfl, Heap.get?_none_of_le hsz⟩
      · cases e)
    have Ng : g h'.objs.size = none := by
      cases q : g h'.objs.size with
      | none => rfl
      | some o2 => have := Heap.get?_none_of_le (h := s.heap) hsz; rw [S.leg _ o2 q] at this; cases this
    have jf : joinB g N h'.objs.size = some F := by unfold joinB; rw [Ng, Nf]; rfl
    exact hQ _ _ _ _ tk E ⟨_, c', ctv, _, ps, rfl, jf, hcr.mono joinB_l, rfl, hT.mono joinB_l⟩
end
/-- a lambda, called -/
theorem FE.body {prog : Program} {w : World} {d : Nat} {f : Addr} {vs : List Value} {g : Bs} {R : Value → Prop} {name qual : Str} {params : Arguments} {body : Expr} {scope : Scope} {cl : List (Str × Addr)} {pm ctv : Value} {c' : Addr} {binds : List (Str × Value)}
    (ho : g f = some (kla_obj name qual params body scope cl pm c' ctv)) (hcode : CR g c' qual) (hlim : ∀ h, LeB g h → h.NoLimit)
    (hbind : bindArgs (kla_fn name qual params body scope cl pm (.ref c') ctv) ⟨vs, []⟩ = pure binds) (hloc : ∀ y ∈ binds, scope.names.lookup y.1 = some .local) (hcell : ∀ x ∈ scope.names, x.2 ≠ .cell)
    (hb : ∀ (A : Around) (L : Addr), A.handled = none → A.depth + d < recursionLimit → EP prog w A (envX qual scope L f (.ref c') cl) g nok (fun x => binds.reverse.lookup x) body R)
    (hco : scope.isCoroutine = false := by rfl) (hgen : scope.isGenerator = false := by rfl) (hk : scope.kind = .function := by rfl) : FS prog w (d + 1) f vs [] g (fun _ v => R v) := by
  intro A s Q hh hd hg hq
  refine wpAny_call (kla_callFunE (by omega) (hg _ _ ho) rfl hco hgen rfl (hcode.at _ hg) ?_)
  rw [hbind]
  refine wpAny_pure (wpAny_newFunctionEnv hcell hloc (fun h₁ hns hsb => ⟨(hlim _ hg).fresh _ hsb, ?_⟩) hk)
  show codeAny _ _ (.expr body (envX qual scope s.heap.objs.size f (.ref c') cl)) _ _
  have keep : LeH s.heap h₁ := fun b o e => hsb.extBut b o (Nat.ne_of_lt (Heap.lt_size e)) (Heap.get?_push_of_some _ e)
  have gL : g s.heap.objs.size = none := by
    cases q : g s.heap.objs.size with
    | none => rfl
    | some o => have := hg _ _ q; rw [Heap.get?_none_of_le (Nat.le_refl _)] at this; cases this
  have S : St s.heap.objs.size g nok (fun x => binds.reverse.lookup x) h₁ := ⟨hns, hg.trans keep, fun b o e => (by cases e), fun b o e => rfl, gL, rfl⟩
  have hA : (A.deeper (envX qual scope s.heap.objs.size f (.ref c') cl)).depth = A.depth + 1 := rfl
  have hH : (A.deeper (envX qual scope s.heap.objs.size f (.ref c') cl)).handled = none := hh
  refine kla_codeExpr (noE (hb (A.deeper (envX qual scope s.heap.objs.size f (.ref c') cl)) s.heap.objs.size hH (by omega) ⟨h₁, s.gens, s.drawn, _, s.os⟩ _ S fun v h' tk l r => hq g v h' tk (.leH hg (keep.trans l)) r))
end Mine
end
/-! P11 -/
section
open PySem PySem.W PyProof.Rows PySem.Calls
namespace Mine
noncomputable def bisGo (p : Nat → Bool) (row : List Nat) : Nat → Nat → Nat → Nat
  | 0, lo, _ => lo
  | f + 1, lo, hi => if lo < hi then (if p (row.getD ((lo + hi) / 2) 0) then bisGo p row f lo ((lo + hi) / 2) else bisGo p row f ((lo + hi) / 2 + 1) hi) else lo
theorem bisGo_end {p : Nat → Bool} {row : List Nat} {f lo hi : Nat} (h : ¬ lo < hi) : bisGo p row f lo hi = lo := by
  cases f with
  | zero => rfl
  | succ f => rw [bisGo, if_neg h]
noncomputable def bisAt (p : Nat → Bool) (row : List Nat) : Nat := bisGo p row row.length 0 row.length
theorem bisGo_le {p : Nat → Bool} {row : List Nat} {n : Nat} : ∀ (f lo hi : Nat), lo ≤ n → hi ≤ n → bisGo p row f lo hi ≤ n
  | 0, lo, hi, h, _ => h
  | f + 1, lo, hi, h, h' => by
    rw [bisGo]
    split
    · split
      · exact bisGo_le f _ _ h (by omega)
      · exact bisGo_le f _ _ (by omega) h'
    · exact h
theorem bisAt_le {p : Nat → Bool} {row : List Nat} : bisAt p row ≤ row.length := bisGo_le _ _ _ (Nat.zero_le _) (Nat.le_refl _)
/-- a key: a def that gives an int for each place -/
noncomputable def KeyOk (prog : Program) (w : World) (g : Bs) (F : Addr) (n : Nat) (ky : Nat → Int) : Prop := (∃ o fd, g F = some o ∧ o.data = .func fd) ∧ ∀ g', SubB g g' → ∀ (i : Nat) v, i < n → isI (i : Int) v → FS prog w 1 F [v] [] g' (fun _ r => isI (ky i) r)
theorem KeyOk.mono {prog : Program} {w : World} {g g' : Bs} {F : Addr} {n : Nat} {ky : Nat → Int} (x : KeyOk prog w g F n ky) (s : SubB g g') : KeyOk prog w g' F n ky := ⟨let ⟨o, fd, a, b⟩ := x.1; ⟨o, fd, s _ _ a, b⟩, fun g2 s2 => x.2 g2 (s.trans s2)⟩
noncomputable def natL (row : List Nat) : List D := row.map fun (p : Nat) => .int (p : Int)
theorem natL_get {prog : Program} {w : World} {g : Bs} {vs : List Value} {row : List Nat} (r : RpL prog w g vs (natL row)) {j : Nat} (h : j < row.length) : ∃ y, vs[j]? = some y ∧ isI ((row.getD j 0 : Nat) : Int) y := by
  have e : (natL row)[j]? = some (.int ((row.getD j 0 : Nat) : Int)) := by
    rw [natL, List.getElem?_map, List.getD_eq_getElem?_getD, List.getElem?_eq_getElem h]; rfl
  obtain ⟨y, a, b⟩ := r.get e
  exact ⟨y, a, b.isI⟩
theorem outK_same {k₀ k : Bs} (sub : SubB k₀ k) : outK k k₀ = k₀ := by
  funext b
  unfold outK
  cases q : k₀ b with
  | none => rfl
  | some o => exact sub b o q
theorem BD.dflt {fd : FuncData} {args : Args} {g : Bs} {binds : List (Str × Value)} {T : Addr} {o : Obj} {items : Array Value} {n : Nat} {k : Option (Array Value) → Sem (List (Str × Value))} (ho : g T = some o) (hd : fd.defaults = .ref T) (hs : o.data = .seq items n)
    (h₁ : bindArgs fd args = seqItems? fd.defaults >>= k) (h₂ : k (some items) = pure binds) : BD fd args g binds := fun M A E s Q hg hq => (BindsTo.of_defaults hd (hg _ _ ho) hs h₁ h₂) M A E Q hq
section
variable {prog : Program} {w : World} {g : Bs} (B : Base w g) {Y F : Addr} {vs : List Value} {nn n : Nat} {row : List Nat} {ky : Nat → Int} {x : Int} {vx vlo : Value}
include B
theorem bisR_ok (hv : RpL prog w g vs (natL row)) (hrow : ∀ p ∈ row, p < n) (hlen : row.length ≤ 1000) (hkey : KeyOk prog w g F n ky) (hx : isI x vx) (hlo : isI 0 vlo) :
    FK prog w 2 32 [.ref Y, vx, vlo, .none] [("key", .ref F)] g (one1 Y (lstO vs nn)) (fun _ k' v => k' = one1 Y (lstO vs nn) ∧ isI ((bisAt (fun sp => decide (x < ky sp)) row : Nat) : Int) v) := by
  refine FK.body (binds := [("a", .ref Y), ("x", vx), ("lo", vlo), ("hi", .none), ("key", .ref F)]) (B.at rfl) (by rfl) (B.code rfl) B.lim (BD.dflt (T := 24) (B.at rfl) rfl rfl rfl rfl) (by rfl) ?_
  intro A L k hh hdp sub hcells
  have hY : k Y = some (lstO vs nn) := sub _ _ setk_self
  have hvl : vs.length = row.length := by rw [hv.length, natL, List.length_map]
  refine EX.then (R₁ := fun g' k' m' => k' = k ∧ m' = _) (E1.if (c := decide ((0 : Int) < 0)) (ET.cmp (EP.loc (v := vlo) rfl hlo) EP.int fun _ _ a b => CO.lt a b) (fun h => absurd h (by decide)) fun _ => EX.nil ⟨rfl, rfl, rfl⟩) ?_
  rintro g₁ k₁ m₁ s₁ ⟨rfl, rfl⟩
  have B₁ := B.mono s₁
  refine EX.then (R₁ := fun g' k' m' => k' = k₁ ∧ ∃ v, isI (row.length : Int) v ∧ m' = _) (E1.if (c := true) (ET.cmp (EP.loc (v := .none) (R := isV .none) rfl rfl) EP.none fun _ _ a b => CO.isNone b a) (fun _ => EX.then (E1.set (EP.toV (EP.lenK (EP.bi B₁) (EP.loc (v := .ref Y) rfl rfl) hY (by omega)))) fun g2 k2 m2 s2 ⟨e1, v, ev, e2⟩ => EX.nil ⟨rfl, e1, v, by rw [← hvl]; exact ev, e2⟩) fun h => absurd h (by decide)) ?_
  rintro g₂ k₂ m₂ s₂ ⟨rfl, vhi, hhi, rfl⟩
  have B₂ := B₁.mono s₂
  have hk2 := (hkey.mono s₁).mono s₂
  refine EX.then (R₁ := fun g' k' m' => k' = k₂ ∧ ∃ v, m' "lo" = some v ∧ isI ((bisAt (fun sp => decide (x < ky sp)) row : Nat) : Int) v) (E1.if (c := false) (ET.cmp (EP.loc (v := .ref F) (R := isV (.ref F)) rfl rfl) EP.none fun a b ha hb => CO.notNone hb (by have ha' : a = .ref F := ha; subst ha'; intro e; cases e)) (fun h => absurd h (by decide)) fun _ => ?_) ?_
  · refine EX.while (fun f g' k' m' => ∃ (lo hi : Nat) (v1 v2 : Value), k' = k₂ ∧ m' "a" = some (.ref Y) ∧ m' "x" = some vx ∧ m' "key" = some (.ref F) ∧ m' "lo" = some v1 ∧ isI (lo : Int) v1 ∧ m' "hi" = some v2 ∧ isI (hi : Int) v2 ∧ hi ≤ row.length ∧ hi - lo ≤ f ∧ bisGo (fun sp => decide (x < ky sp)) row f lo hi = bisAt (fun sp => decide (x < ky sp)) row) row.length
      ⟨0, row.length, vlo, vhi, rfl, rfl, rfl, rfl, rfl, hlo, rfl, hhi, Nat.le_refl _, by omega, rfl⟩ ?_
    rintro f g' k' m' s ⟨lo, hi, v1, v2, rfl, e1, e2, e3, e4, i4, e5, i5, h6, h7, h8⟩
    refine ⟨decide ((lo : Int) < (hi : Int)), ET.cmp (EP.loc e4 i4) (EP.loc e5 i5) fun _ _ a b => CO.lt a b, fun hc => ?_, fun hc => ?_⟩
    · have hlt : lo < hi := by have := of_decide_eq_true hc; omega
      obtain ⟨f, rfl⟩ : ∃ f', f = f' + 1 := ⟨f - 1, by omega⟩
      rw [bisGo, if_pos hlt] at h8
      generalize hmid : (lo + hi) / 2 = mid at h8
      have hm1 : lo ≤ mid ∧ mid < hi := by omega
      refine EX.then (E1.set (R := fun _ => isI (mid : Int)) (EP.toV (EP.mono (EP.fdiv (EP.add (EP.loc e4 i4) (EP.loc e5 i5)) EP.int (by decide) (PyProof.noPylong_small (by decide))) fun v h => ?_))) ?_
      · have e : ((lo : Int) + (hi : Int)).fdiv 2 = (mid : Int) := by rw [Int.fdiv_eq_ediv_of_nonneg _ (by decide)]; omega
        rwa [e] at h
      rintro g3 k3 m3 s3 ⟨rfl, vm, hvm, rfl⟩
      obtain ⟨y, hy, iy⟩ := natL_get hv (j := mid) (by omega)
      have hmem : row.getD mid 0 ∈ row := by
        rw [List.getD_eq_getElem?_getD, List.getElem?_eq_getElem (show mid < row.length by omega)]
        exact List.getElem_mem _
      have hkc := (hk2.mono s).mono s3
      refine EX.then (R₁ := fun _ k' m' => ∃ (lo hi : Nat) (v1 v2 : Value), k' = k3 ∧ m' "a" = some (.ref Y) ∧ m' "x" = some vx ∧ m' "key" = some (.ref F) ∧ m' "lo" = some v1 ∧ isI (lo : Int) v1 ∧ m' "hi" = some v2 ∧ isI (hi : Int) v2 ∧ hi ≤ row.length ∧ hi - lo ≤ f ∧ bisGo (fun sp => decide (x < ky sp)) row f lo hi = bisAt (fun sp => decide (x < ky sp)) row)
        (E1.if (c := decide (x < ky (row.getD mid 0))) (ET.cmp (EP.loc ((upd_ne (by decide)).trans e2) hx) (EP.call (R := isI (ky (row.getD mid 0))) (EP.loc ((upd_ne (by decide)).trans e3) rfl) hkc.1 (EL.one (EP.itemK (EP.loc ((upd_ne (by decide)).trans e1) rfl) hY (EP.loc upd_self hvm) (by omega) hy)) ?_) fun _ _ a b => CO.lt a b) (fun h => ?_) fun h => ?_) ?_
      · rintro g4 vs4 s4 ⟨v4, rfl, hv4⟩
        have hv4' : v4 = y := hv4
        subst hv4'
        exact FS.toCV (hkc.2 g4 s4 _ _ (hrow _ hmem) iy) hh hdp
      · rw [if_pos h] at h8
        refine EX.then (E1.set (R := fun _ v => v = vm) (EP.toV (EP.loc upd_self rfl))) ?_
        rintro g4 k4 m4 s4 ⟨rfl, v4, rfl, rfl⟩
        exact EX.nil ⟨rfl, lo, mid, v1, _, rfl, (upd_ne (by decide)).trans ((upd_ne (by decide)).trans e1), (upd_ne (by decide)).trans ((upd_ne (by decide)).trans e2), (upd_ne (by decide)).trans ((upd_ne (by decide)).trans e3), (upd_ne (by decide)).trans ((upd_ne (by decide)).trans e4), i4, upd_self, hvm, by omega, by omega, h8⟩
      · rw [if_neg (by rw [h]; decide)] at h8
        refine EX.then (E1.set (R := fun _ => isI ((mid + 1 : Nat) : Int)) (EP.toV (EP.mono (EP.add (EP.loc upd_self hvm) EP.int) fun v h => by simpa using h))) ?_
        rintro g4 k4 m4 s4 ⟨rfl, v4, hv4, rfl⟩
        exact EX.nil ⟨rfl, mid + 1, hi, _, v2, rfl, (upd_ne (by decide)).trans ((upd_ne (by decide)).trans e1), (upd_ne (by decide)).trans ((upd_ne (by decide)).trans e2), (upd_ne (by decide)).trans ((upd_ne (by decide)).trans e3), upd_self, hv4, (upd_ne (by decide)).trans ((upd_ne (by decide)).trans e5), i5, by omega, by omega, h8⟩
      · rintro g4 k4 m4 s4 hJ
        exact EX.nil ⟨rfl, f, Nat.lt_succ_self _, hJ⟩
    · have hlt : ¬ lo < hi := by have := of_decide_eq_false hc; omega
      rw [bisGo_end hlt] at h8
      exact EX.nil ⟨rfl, rfl, v1, e4, h8 ▸ i4⟩
  · rintro g₃ k₃ m₃ s₃ ⟨rfl, v3, e3, i3⟩
    refine EX.ret (R₁ := fun _ v => v = v3) (EP.toV (EP.loc e3 rfl)) fun g4 v s4 dis hv4 _ => ?_
    subst hv4
    exact ⟨outK_same sub, i3⟩
theorem bisL_ok (hv : RpL prog w g vs (natL row)) (hrow : ∀ p ∈ row, p < n) (hlen : row.length ≤ 1000) (hkey : KeyOk prog w g F n ky) (hx : isI x vx) (hlo : isI 0 vlo) :
    FK prog w 2 50 [.ref Y, vx, vlo, .none] [("key", .ref F)] g (one1 Y (lstO vs nn)) (fun _ k' v => k' = one1 Y (lstO vs nn) ∧ isI ((bisAt (fun sp => !decide (ky sp < x)) row : Nat) : Int) v) := by
  refine FK.body (binds := [("a", .ref Y), ("x", vx), ("lo", vlo), ("hi", .none), ("key", .ref F)]) (B.at rfl) (by rfl) (B.code rfl) B.lim (BD.dflt (T := 42) (B.at rfl) rfl rfl rfl rfl) (by rfl) ?_
  intro A L k hh hdp sub hcells
  have hY : k Y = some (lstO vs nn) := sub _ _ setk_self
  have hvl : vs.length = row.length := by rw [hv.length, natL, List.length_map]
  refine EX.then (R₁ := fun g' k' m' => k' = k ∧ m' = _) (E1.if (c := decide ((0 : Int) < 0)) (ET.cmp (EP.loc (v := vlo) rfl hlo) EP.int fun _ _ a b => CO.lt a b) (fun h => absurd h (by decide)) fun _ => EX.nil ⟨rfl, rfl, rfl⟩) ?_
  rintro g₁ k₁ m₁ s₁ ⟨rfl, rfl⟩
  have B₁ := B.mono s₁
  refine EX.then (R₁ := fun g' k' m' => k' = k₁ ∧ ∃ v, isI (row.length : Int) v ∧ m' = _) (E1.if (c := true) (ET.cmp (EP.loc (v := .none) (R := isV .none) rfl rfl) EP.none fun _ _ a b => CO.isNone b a) (fun _ => EX.then (E1.set (EP.toV (EP.lenK (EP.bi B₁) (EP.loc (v := .ref Y) rfl rfl) hY (by omega)))) fun g2 k2 m2 s2 ⟨e1, v, ev, e2⟩ => EX.nil ⟨rfl, e1, v, by rw [← hvl]; exact ev, e2⟩) fun h => absurd h (by decide)) ?_
  rintro g₂ k₂ m₂ s₂ ⟨rfl, vhi, hhi, rfl⟩
  have B₂ := B₁.mono s₂
  have hk2 := (hkey.mono s₁).mono s₂
  refine EX.then (R₁ := fun g' k' m' => k' = k₂ ∧ ∃ v, m' "lo" = some v ∧ isI ((bisAt (fun sp => !decide (ky sp < x)) row : Nat) : Int) v) (E1.if (c := false) (ET.cmp (EP.loc (v := .ref F) (R := isV (.ref F)) rfl rfl) EP.none fun a b ha hb => CO.notNone hb (by have ha' : a = .ref F := ha; subst ha'; intro e; cases e)) (fun h => absurd h (by decide)) fun _ => ?_) ?_
  · refine EX.while (fun f g' k' m' => ∃ (lo hi : Nat) (v1 v2 : Value), k' = k₂ ∧ m' "a" = some (.ref Y) ∧ m' "x" = some vx ∧ m' "key" = some (.ref F) ∧ m' "lo" = some v1 ∧ isI (lo : Int) v1 ∧ m' "hi" = some v2 ∧ isI (hi : Int) v2 ∧ hi ≤ row.length ∧ hi - lo ≤ f ∧ bisGo (fun sp => !decide (ky sp < x)) row f lo hi = bisAt (fun sp => !decide (ky sp < x)) row) row.length
      ⟨0, row.length, vlo, vhi, rfl, rfl, rfl, rfl, rfl, hlo, rfl, hhi, Nat.le_refl _, by omega, rfl⟩ ?_
    rintro f g' k' m' s ⟨lo, hi, v1, v2, rfl, e1, e2, e3, e4, i4, e5, i5, h6, h7, h8⟩
    refine ⟨decide ((lo : Int) < (hi : Int)), ET.cmp (EP.loc e4 i4) (EP.loc e5 i5) fun _ _ a b => CO.lt a b, fun hc => ?_, fun hc => ?_⟩
    · have hlt : lo < hi := by have := of_decide_eq_true hc; omega
      obtain ⟨f, rfl⟩ : ∃ f', f = f' + 1 := ⟨f - 1, by omega⟩
      rw [bisGo, if_pos hlt] at h8
      generalize hmid : (lo + hi) / 2 = mid at h8
      have hm1 : lo ≤ mid ∧ mid < hi := by omega
      refine EX.then (E1.set (R := fun _ => isI (mid : Int)) (EP.toV (EP.mono (EP.fdiv (EP.add (EP.loc e4 i4) (EP.loc e5 i5)) EP.int (by decide) (PyProof.noPylong_small (by decide))) fun v h => ?_))) ?_
      · have e : ((lo : Int) + (hi : Int)).fdiv 2 = (mid : Int) := by rw [Int.fdiv_eq_ediv_of_nonneg _ (by decide)]; omega
        rwa [e] at h
      rintro g3 k3 m3 s3 ⟨rfl, vm, hvm, rfl⟩
      obtain ⟨y, hy, iy⟩ := natL_get hv (j := mid) (by omega)
      have hmem : row.getD mid 0 ∈ row := by
        rw [List.getD_eq_getElem?_getD, List.getElem?_eq_getElem (show mid < row.length by omega)]
        exact List.getElem_mem _
      have hkc := (hk2.mono s).mono s3
      refine EX.then (R₁ := fun _ k' m' => ∃ (lo hi : Nat) (v1 v2 : Value), k' = k3 ∧ m' "a" = some (.ref Y) ∧ m' "x" = some vx ∧ m' "key" = some (.ref F) ∧ m' "lo" = some v1 ∧ isI (lo : Int) v1 ∧ m' "hi" = some v2 ∧ isI (hi : Int) v2 ∧ hi ≤ row.length ∧ hi - lo ≤ f ∧ bisGo (fun sp => !decide (ky sp < x)) row f lo hi = bisAt (fun sp => !decide (ky sp < x)) row)
        (E1.if (c := decide (ky (row.getD mid 0) < x)) (ET.cmp (EP.call (R := isI (ky (row.getD mid 0))) (EP.loc ((upd_ne (by decide)).trans e3) rfl) hkc.1 (EL.one (EP.itemK (EP.loc ((upd_ne (by decide)).trans e1) rfl) hY (EP.loc upd_self hvm) (by omega) hy)) ?_) (EP.loc ((upd_ne (by decide)).trans e2) hx) fun _ _ a b => CO.lt a b) (fun h => ?_) fun h => ?_) ?_
      · rintro g4 vs4 s4 ⟨v4, rfl, hv4⟩
        have hv4' : v4 = y := hv4
        subst hv4'
        exact FS.toCV (hkc.2 g4 s4 _ _ (hrow _ hmem) iy) hh hdp
      · rw [if_neg (by rw [h]; decide)] at h8
        refine EX.then (E1.set (R := fun _ => isI ((mid + 1 : Nat) : Int)) (EP.toV (EP.mono (EP.add (EP.loc upd_self hvm) EP.int) fun v h => by simpa using h))) ?_
        rintro g4 k4 m4 s4 ⟨rfl, v4, hv4, rfl⟩
        exact EX.nil ⟨rfl, mid + 1, hi, _, v2, rfl, (upd_ne (by decide)).trans ((upd_ne (by decide)).trans e1), (upd_ne (by decide)).trans ((upd_ne (by decide)).trans e2), (upd_ne (by decide)).trans ((upd_ne (by decide)).trans e3), upd_self, hv4, (upd_ne (by decide)).trans ((upd_ne (by decide)).trans e5), i5, by omega, by omega, h8⟩
      · rw [if_pos (by rw [h]; decide)] at h8
        refine EX.then (E1.set (R := fun _ v => v = vm) (EP.toV (EP.loc upd_self rfl))) ?_
        rintro g4 k4 m4 s4 ⟨rfl, v4, rfl, rfl⟩
        exact EX.nil ⟨rfl, lo, mid, v1, _, rfl, (upd_ne (by decide)).trans ((upd_ne (by decide)).trans e1), (upd_ne (by decide)).trans ((upd_ne (by decide)).trans e2), (upd_ne (by decide)).trans ((upd_ne (by decide)).trans e3), (upd_ne (by decide)).trans ((upd_ne (by decide)).trans e4), i4, upd_self, hvm, by omega, by omega, h8⟩
      · rintro g4 k4 m4 s4 hJ
        exact EX.nil ⟨rfl, f, Nat.lt_succ_self _, hJ⟩
    · have hlt : ¬ lo < hi := by have := of_decide_eq_false hc; omega
      rw [bisGo_end hlt] at h8
      exact EX.nil ⟨rfl, rfl, v1, e4, h8 ▸ i4⟩
  · rintro g₃ k₃ m₃ s₃ ⟨rfl, v3, e3, i3⟩
    refine EX.ret (R₁ := fun _ v => v = v3) (EP.toV (EP.loc e3 rfl)) fun g4 v s4 dis hv4 _ => ?_
    subst hv4
    exact ⟨outK_same sub, i3⟩
end
end Mine
end
/-! P12 -/
section
open PySem PySem.W PyProof.Rows PySem.Calls
namespace Mine
noncomputable def insAt (p : Nat → Bool) (row : List Nat) (place : Nat) : List Nat := row.take (bisAt p row) ++ place :: row.drop (bisAt p row)
theorem setk_same {k : Bs} {c : Addr} {o : Obj} (h : k c = some o) : setk k c o = k := by
  funext b; unfold setk; split
  · rename_i q; subst q; exact h.symm
  · rfl
theorem outK_one {k : Bs} {Y : Addr} {o o' : Obj} : outK (setk k Y o') (one1 Y o) = one1 Y o' := by
  funext b
  by_cases hb : b = Y
  · subst hb; simp [outK, one1, setk]
  · simp [outK, one1, setk, nok, hb]
theorem RpL.take {prog : Program} {w : World} {g : Bs} : ∀ {vs : List Value} {ds : List D} (i : Nat), RpL prog w g vs ds → RpL prog w g (vs.take i) (ds.take i)
  | _, _, 0, _ => by simp only [List.take_zero]; exact .nil
  | _, _, i + 1, .nil => .nil
  | _, _, i + 1, .cons a r => .cons a (r.take i)
theorem RpL.drop {prog : Program} {w : World} {g : Bs} : ∀ {vs : List Value} {ds : List D} (i : Nat), RpL prog w g vs ds → RpL prog w g (vs.drop i) (ds.drop i)
  | _, _, 0, r => r
  | _, _, i + 1, .nil => .nil
  | _, _, i + 1, .cons a r => r.drop i
theorem RpL.insert {prog : Program} {w : World} {g g' : Bs} {vs : List Value} {row : List Nat} {i place : Nat} {v : Value} (s : SubB g g') (r : RpL prog w g vs (natL row)) (hv : isI (place : Int) v) : RpL prog w g' (vs.take i ++ v :: vs.drop i) (natL (row.take i ++ place :: row.drop i)) := by
  have e : natL (row.take i ++ place :: row.drop i) = (natL row).take i ++ .int (place : Int) :: (natL row).drop i := by simp [natL]
  rw [e]
  exact RpL.append (.cons (rpI hv) ((r.mono s).drop i)) ((r.mono s).take i)
section
variable {prog : Program} {w : World} {g : Bs} (B : Base w g) {Y F : Addr} {vs : List Value} {nn n place : Nat} {row : List Nat} {ky : Nat → Int} {vp : Value}
include B
theorem insR_ok (hv : RpL prog w g vs (natL row)) (hrow : ∀ p ∈ row, p < n) (hlen : row.length ≤ 1000) (hkey : KeyOk prog w g F n ky) (hp : isI (place : Int) vp) (hpn : place < n) :
    FK prog w 3 23 [.ref Y, vp] [("key", .ref F)] g (one1 Y (lstO vs nn)) (fun g' k' _ => ∃ vs' nn', k' = one1 Y (lstO vs' nn') ∧ RpL prog w g' vs' (natL (insAt (fun sp => decide (ky place < ky sp)) row place))) := by
  refine FK.body (binds := [("a", .ref Y), ("x", vp), ("lo", .int 0 _), ("hi", .none), ("key", .ref F)]) (B.at rfl) (by rfl) (B.code rfl) B.lim (BD.dflt (T := 15) (B.at rfl) rfl rfl rfl rfl) (by rfl) ?_
  intro A L k hh hdp sub hcells
  have hY : k Y = some (lstO vs nn) := sub _ _ setk_self
  have hvl : vs.length = row.length := by rw [hv.length, natL, List.length_map]
  refine EX.then (R₁ := fun g' k' m' => k' = k ∧ m' "a" = some (.ref Y) ∧ m' "x" = some vp ∧ ∃ v, m' "lo" = some v ∧ isI ((bisAt (fun sp => decide (ky place < ky sp)) row : Nat) : Int) v) (E1.if (c := false) (ET.cmp (EP.loc (v := .ref F) (R := isV (.ref F)) rfl rfl) EP.none fun a b ha hb => CO.notNone hb (by have ha' : a = .ref F := ha; subst ha'; intro e; cases e)) (fun h => absurd h (by decide)) fun _ => ?_) ?_
  · refine EX.then (E1.setM (EM.callKw (fv := .ref 32) (RL := fun _ l => ∃ kx vlo, l = [.ref Y, kx, vlo, .none] ∧ isI (ky place) kx ∧ isI 0 vlo) (RK := fun l g' k' v => k' = k ∧ v = .ref F ∧ ∃ kx vlo, l = [.ref Y, kx, vlo, .none] ∧ isI (ky place) kx ∧ isI 0 vlo) (R := fun _ k' v => k' = k ∧ isI ((bisAt (fun sp => decide (ky place < ky sp)) row : Nat) : Int) v) (EP.glob B) ⟨_, _, B.at rfl, rfl⟩ ?_ ?_ ?_)) ?_
    · refine EL.cons (R₁ := fun _ v => v = .ref Y) (EP.toV (EP.loc rfl rfl)) fun g1 v1 s1 e1 => EL.cons (R₁ := fun _ v => isI (ky place) v) (EV.call (fv := .ref F) (RL := fun _ l => ∃ v, l = [v] ∧ v = vp) (R := fun _ => isI (ky place)) (EP.loc rfl rfl) (hkey.mono s1).1 (EL.one (EP.loc (R := fun v => v = vp) rfl rfl)) ?_) fun g2 v2 s2 i2 => EL.cons (R₁ := fun _ v => isI 0 v) (EP.toV (EP.loc rfl ⟨_, rfl⟩)) fun g3 v3 s3 i3 => EL.cons (R₁ := fun _ v => v = .none) (EP.toV (EP.loc rfl rfl)) fun g4 v4 s4 e4 => EL.nil ⟨v2, v3, by rw [e1, e4], i2, i3⟩
      rintro g2 l s2 ⟨v, rfl, rfl⟩
      exact FS.toCV (hkey.2 g2 (s1.trans s2) _ _ hpn hp) hh (by omega)
    · rintro g1 l s1 hl
      exact (EP.toM (EP.loc (v := .ref F) (R := fun v => v = .ref F) rfl rfl)).mono fun g2 k2 v s2 ⟨_, e1, e2⟩ => ⟨e1, e2, hl⟩
    · rintro l g1 k1 v s1 ⟨rfl, rfl, kx, vlo, rfl, ikx, ilo⟩ s Q S hq
      refine FK.toCM (bisR_ok (B.mono s1) (hv.mono s1) hrow hlen (hkey.mono s1) ikx ilo) hh hdp sub s Q S fun g2 k2 v2 h2 tk2 X r => ?_
      obtain ⟨k3, rfl, rfl, r3⟩ := r
      have hk : over (one1 Y (lstO vs nn)) (one1 Y (lstO vs nn)) k1 = k1 := by
        rw [over_one (k' := one1 Y (lstO vs nn)) (o' := lstO vs nn) (show one1 Y (lstO vs nn) Y = some (lstO vs nn) from setk_self)]; exact setk_same hY
      rw [hk] at X
      exact hq g2 k1 v2 h2 tk2 X ⟨rfl, r3⟩
    · rintro g1 k1 m1 s1 ⟨v, ⟨rfl, hv1⟩, rfl⟩
      exact EX.nil ⟨rfl, rfl, rfl, rfl, v, upd_self, hv1⟩
  · rintro g1 k1 m1 s1 ⟨rfl, e1, e2, v, e3, iv⟩
    have hle : bisAt (fun sp => decide (ky place < ky sp)) row ≤ vs.length := by rw [hvl]; exact bisAt_le
    refine EX.then (E1.insert (Y := Y) (vs := vs) (n := nn) (R := fun _ v => v = vp) (EP.loc e1 rfl) hY (by omega) hle (EP.loc e3 iv) (EP.toV (EP.loc e2 rfl))) ?_
    rintro g2 k2 m2 s2 ⟨rfl, v2, n2, rfl, rfl⟩
    refine EX.nil fun dis => ⟨_, n2, outK_one, ?_⟩
    exact RpL.insert ((s1.trans s2).trans outG_l) hv hp
theorem insL_ok (hv : RpL prog w g vs (natL row)) (hrow : ∀ p ∈ row, p < n) (hlen : row.length ≤ 1000) (hkey : KeyOk prog w g F n ky) (hp : isI (place : Int) vp) (hpn : place < n) :
    FK prog w 3 41 [.ref Y, vp] [("key", .ref F)] g (one1 Y (lstO vs nn)) (fun g' k' _ => ∃ vs' nn', k' = one1 Y (lstO vs' nn') ∧ RpL prog w g' vs' (natL (insAt (fun sp => !decide (ky sp < ky place)) row place))) := by
  refine FK.body (binds := [("a", .ref Y), ("x", vp), ("lo", .int 0 _), ("hi", .none), ("key", .ref F)]) (B.at rfl) (by rfl) (B.code rfl) B.lim (BD.dflt (T := 33) (B.at rfl) rfl rfl rfl rfl) (by rfl) ?_
  intro A L k hh hdp sub hcells
  have hY : k Y = some (lstO vs nn) := sub _ _ setk_self
  have hvl : vs.length = row.length := by rw [hv.length, natL, List.length_map]
  refine EX.then (R₁ := fun g' k' m' => k' = k ∧ m' "a" = some (.ref Y) ∧ m' "x" = some vp ∧ ∃ v, m' "lo" = some v ∧ isI ((bisAt (fun sp => !decide (ky sp < ky place)) row : Nat) : Int) v) (E1.if (c := false) (ET.cmp (EP.loc (v := .ref F) (R := isV (.ref F)) rfl rfl) EP.none fun a b ha hb => CO.notNone hb (by have ha' : a = .ref F := ha; subst ha'; intro e; cases e)) (fun h => absurd h (by decide)) fun _ => ?_) ?_
  · refine EX.then (E1.setM (EM.callKw (fv := .ref 50) (RL := fun _ l => ∃ kx vlo, l = [.ref Y, kx, vlo, .none] ∧ isI (ky place) kx ∧ isI 0 vlo) (RK := fun l g' k' v => k' = k ∧ v = .ref F ∧ ∃ kx vlo, l = [.ref Y, kx, vlo, .none] ∧ isI (ky place) kx ∧ isI 0 vlo) (R := fun _ k' v => k' = k ∧ isI ((bisAt (fun sp => !decide (ky sp < ky place)) row : Nat) : Int) v) (EP.glob B) ⟨_, _, B.at rfl, rfl⟩ ?_ ?_ ?_)) ?_
    · refine EL.cons (R₁ := fun _ v => v = .ref Y) (EP.toV (EP.loc rfl rfl)) fun g1 v1 s1 e1 => EL.cons (R₁ := fun _ v => isI (ky place) v) (EV.call (fv := .ref F) (RL := fun _ l => ∃ v, l = [v] ∧ v = vp) (R := fun _ => isI (ky place)) (EP.loc rfl rfl) (hkey.mono s1).1 (EL.one (EP.loc (R := fun v => v = vp) rfl rfl)) ?_) fun g2 v2 s2 i2 => EL.cons (R₁ := fun _ v => isI 0 v) (EP.toV (EP.loc rfl ⟨_, rfl⟩)) fun g3 v3 s3 i3 => EL.cons (R₁ := fun _ v => v = .none) (EP.toV (EP.loc rfl rfl)) fun g4 v4 s4 e4 => EL.nil ⟨v2, v3, by rw [e1, e4], i2, i3⟩
      rintro g2 l s2 ⟨v, rfl, rfl⟩
      exact FS.toCV (hkey.2 g2 (s1.trans s2) _ _ hpn hp) hh (by omega)
    · rintro g1 l s1 hl
      exact (EP.toM (EP.loc (v := .ref F) (R := fun v => v = .ref F) rfl rfl)).mono fun g2 k2 v s2 ⟨_, e1, e2⟩ => ⟨e1, e2, hl⟩
    · rintro l g1 k1 v s1 ⟨rfl, rfl, kx, vlo, rfl, ikx, ilo⟩ s Q S hq
      refine FK.toCM (bisL_ok (B.mono s1) (hv.mono s1) hrow hlen (hkey.mono s1) ikx ilo) hh hdp sub s Q S fun g2 k2 v2 h2 tk2 X r => ?_
      obtain ⟨k3, rfl, rfl, r3⟩ := r
      have hk : over (one1 Y (lstO vs nn)) (one1 Y (lstO vs nn)) k1 = k1 := by
        rw [over_one (k' := one1 Y (lstO vs nn)) (o' := lstO vs nn) (show one1 Y (lstO vs nn) Y = some (lstO vs nn) from setk_self)]; exact setk_same hY
      rw [hk] at X
      exact hq g2 k1 v2 h2 tk2 X ⟨rfl, r3⟩
    · rintro g1 k1 m1 s1 ⟨v, ⟨rfl, hv1⟩, rfl⟩
      exact EX.nil ⟨rfl, rfl, rfl, rfl, v, upd_self, hv1⟩
  · rintro g1 k1 m1 s1 ⟨rfl, e1, e2, v, e3, iv⟩
    have hle : bisAt (fun sp => !decide (ky sp < ky place)) row ≤ vs.length := by rw [hvl]; exact bisAt_le
    refine EX.then (E1.insert (Y := Y) (vs := vs) (n := nn) (R := fun _ v => v = vp) (EP.loc e1 rfl) hY (by omega) hle (EP.loc e3 iv) (EP.toV (EP.loc e2 rfl))) ?_
    rintro g2 k2 m2 s2 ⟨rfl, v2, n2, rfl, rfl⟩
    refine EX.nil fun dis => ⟨_, n2, outK_one, ?_⟩
    exact RpL.insert ((s1.trans s2).trans outG_l) hv hp
end
end Mine
end
/-! P13 -/
section
open PySem PySem.W PyProof.Rows PySem.Calls
namespace Mine
noncomputable def rowOf (lt : Nat → Nat → Bool) : Nat → List Nat
  | 0 => []
  | i + 1 => insAt (lt i) (rowOf lt i) i
noncomputable def kyOf (b : List UInt8) (spot : Nat) : Int := ((b.getD spot 0).toNat : Nat)
noncomputable def ltOf (later : Bool) (ky : Nat → Int) (place spot : Nat) : Bool := if later then decide (ky place < ky spot) else !decide (ky spot < ky place)
theorem rowOf_mem {lt : Nat → Nat → Bool} : ∀ {i p : Nat}, p ∈ rowOf lt i → p < i
  | 0, p, h => nomatch h
  | i + 1, p, h => by
    rw [rowOf, insAt, List.mem_append, List.mem_cons] at h
    rcases h with h | rfl | h
    · exact Nat.lt_succ_of_lt (rowOf_mem (List.mem_of_mem_take h))
    · exact Nat.lt_succ_self _
    · exact Nat.lt_succ_of_lt (rowOf_mem (List.mem_of_mem_drop h))
theorem rowOf_len {lt : Nat → Nat → Bool} : ∀ {i : Nat}, (rowOf lt i).length = i
  | 0 => rfl
  | i + 1 => by
    have := rowOf_len (lt := lt) (i := i)
    have h2 := bisAt_le (p := lt i) (row := rowOf lt i)
    rw [rowOf, insAt, List.length_append, List.length_cons, List.length_take, List.length_drop]
    omega
noncomputable abbrev lamQ : Str := "_law_laid.<locals>.<lambda>"
theorem outK_at {k : Bs} {Y : Addr} {o o' : Obj} (h : k Y = some o') : outK k (one1 Y o) = one1 Y o' := by
  funext b
  by_cases hb : b = Y
  · subst hb; simp [outK, one1, setk, h]
  · simp [outK, one1, setk, nok, hb]
theorem laid_ok {prog : Program} {w : World} {g : Bs} (B : Base w g) {b : List UInt8} {later : Bool} {ps : Array Value} {vw : Value} (hT : TabOk lamQ g ps) (hb : b.length ≤ 4) (hw : isY b.toArray vw) :
    FK prog w 4 90 [vw, .bool later] [] g (one1 85 (tabObj ps)) (fun g' k' v => (∃ ps', k' = one1 85 (tabObj ps') ∧ TabOk lamQ g' ps') ∧ Rp prog w g' v (.lst (natL (rowOf (ltOf later (kyOf b)) b.length)))) := by
  refine FK.body (binds := [("word", vw), ("later", .bool later)]) (B.at rfl) (by rfl) (B.code rfl) B.lim (BD.of_eq (by rfl)) (by rfl) ?_
  intro A L k hh hdp sub hcells
  obtain ⟨hL, oc, kc, hoc⟩ := hcells "word" (L + 1) rfl
  have hoc' : oc.data = .cell (some vw) := hoc
  have hL85 : 85 ≠ L + 1 := fun e => by rw [← e] at hL; exact absurd (hL.symm.trans (setk_self : one1 85 (tabObj ps) 85 = _)) (by intro h; cases h)
  refine EX.freeze kc fun gn => ?_
  have sg : SubB g (setk g (L + 1) oc) := SubB.setk gn
  have B₀ := B.mono sg
  have k85 : delk k (L + 1) 85 = some (tabObj ps) := by rw [delk_ne hL85]; exact sub _ _ setk_self
  have gc : setk g (L + 1) oc (L + 1) = some oc := setk_self
  have hT₀ := hT.mono sg
  generalize setk g (L + 1) oc = g₀ at *
  generalize delk k (L + 1) = k₀ at *
  refine EX.then (E1.setM EM.nilList) fun g₁ k₁ m₁ s₁ r => ?_
  obtain ⟨v₁, ⟨rfl, a, ga, ka, rfl, rfl⟩, rfl⟩ := r
  have ha85 : 85 ≠ a := fun e => by rw [← e, k85] at ka; cases ka
  refine EX.for (its := (rngL 0 1 b.length).map .one) (fun i g' k' m' => m' "row" = some (.ref a) ∧ m' "later" = some (.bool later) ∧ ∃ vs nn ps, k' a = some (lstO vs nn) ∧ RpL prog w g' vs (natL (rowOf (ltOf later (kyOf b)) i)) ∧ k' 85 = some (tabObj ps) ∧ TabOk lamQ g' ps) ?_ ?_ ?_ ?_
  · exact EI.range1 hh B₀ (by omega) (EP.bi B₀) (EP.mono (EP.lenY (EP.bi B₀) (EP.cell (c := L + 1) (o := oc) rfl (.inr gc) hoc' hw) (by simp only [List.size_toArray]; omega)) fun v h => by simpa using h)
  · exact fun g' s => ⟨rfl, rfl, [], 0, ps, setk_self, .nil, by rw [setk_ne ha85]; exact k85, hT₀.mono s⟩
  · rintro i it g' k' m' s hi ⟨e1, e2, vs, nn, ps1, e3, hr, e4, hT1⟩
    obtain ⟨hlt, rfl⟩ := rng_get hi
    have B₁ := B₀.mono s
    refine EA.mono EA.name ?_
    rintro g2 k2 m2 s2 ⟨rfl, rfl, vp, rp, rfl⟩
    have hvp : isI (i : Int) vp := by have := rp.isI; simpa using this
    have hrow : ∀ p ∈ rowOf (ltOf later (kyOf b)) i, p < b.length := fun p hp => Nat.lt_trans (rowOf_mem hp) hlt
    refine EX.then (R₁ := fun g' k' m' => m' "row" = some (.ref a) ∧ m' "later" = some (.bool later) ∧ ∃ vs nn, k' a = some (lstO vs nn) ∧ RpL prog w g' vs (natL (rowOf (ltOf later (kyOf b)) (i + 1))) ∧ ∃ ps, k' 85 = some (tabObj ps) ∧ TabOk lamQ g' ps) (E1.if (c := later) (ET.bool (EP.loc (v := .bool later) ((upd_ne (by decide)).trans e2) rfl)) (fun hl => ?_) (fun hl => ?_)) (fun g3 k3 m3 s3 ⟨f1, f2, vs', nn', f3, f4, ps', f5, f6⟩ => EX.nil ⟨rfl, f1, f2, vs', nn', ps', f3, f4, f5, f6⟩)
    · subst hl
      refine EX.then (E1.exprM (EM.callKw (fv := .ref 23) (RL := fun _ l => l = [.ref a, vp]) (RK := fun l g' k' v => l = [.ref a, vp] ∧ ∃ F ps', v = .ref F ∧ KeyOk prog w g' F b.length (kyOf b) ∧ k' = setk k2 85 (tabObj ps') ∧ TabOk lamQ g' ps')
        (R := fun g' k' _ => ∃ vs' nn' ps', k' = setk (setk k2 85 (tabObj ps')) a (lstO vs' nn') ∧ RpL prog w g' vs' (natL (rowOf (ltOf true (kyOf b)) (i + 1))) ∧ TabOk lamQ g' ps') (EP.glob B₁) ⟨_, _, B₁.at rfl, rfl⟩ ((EL.two (EP.loc (R := fun v => v = .ref a) ((upd_ne (by decide)).trans e1) rfl) (EP.loc (R := fun v => v = vp) upd_self rfl)).mono fun g' l s ⟨x, y, e, ex, ey⟩ => by rw [e, ex, ey]) ?_ ?_)) ?_
      · rintro g3 l s3 rfl
        refine (EM.lam (c := 89) (P := 85) (q := lamQ) (ps := ps1) (B₁.mono s3) e4 (hT1.mono s3)).mono ?_
        rintro g4 k4 v s4 ⟨F, c', ctv, pm, ps', rfl, gF, cr, rfl, hT'⟩
        refine ⟨rfl, F, ps', rfl, ⟨⟨_, _, gF, rfl⟩, fun g5 s5 j v hj hv => ?_⟩, rfl, hT'⟩
        have hget : b[j]? = some b[j] := List.getElem?_eq_getElem hj
        have B₅ := ((B₁.mono s3).mono s4).mono s5
        refine FE.body (binds := [("spot", v)]) (s5 _ _ gF) (cr.mono s5) B₅.lim (by rfl) (fun y hy => by rw [List.mem_singleton.mp hy]; rfl) (by decide) fun A' L' hh' hd' => EP.mono (EP.itemY (n := j) (EP.free (c := L + 1) (o := oc) rfl (.inr (s5 _ _ (s4 _ _ (s3 _ _ (s _ _ gc))))) hoc' hw) (EP.loc rfl hv) hget (by omega)) fun v h => ?_
        have e : kyOf b j = (b[j].toNat : Int) := by rw [kyOf, List.getD_eq_getElem?_getD, hget]; rfl
        rw [e]; exact h
      · rintro l g3 k3 v s3 ⟨rfl, F, ps', rfl, hkey, rfl, hT'⟩ st Q S hq
        have hsub : SubB (one1 a (lstO vs nn)) (setk k2 85 (tabObj ps')) := fun x o e => by
          by_cases hx : x = a
          · subst hx; rw [show one1 x (lstO vs nn) x = some (lstO vs nn) from setk_self] at e; cases e; rw [setk_ne (Ne.symm ha85)]; exact e3
          · rw [show one1 a (lstO vs nn) x = none from setk_ne hx] at e; cases e
        refine FK.toCM (insR_ok (nn := nn) (B₁.mono s3) (hr.mono s3) hrow (by rw [rowOf_len]; omega) hkey hvp hlt) hh hdp hsub st Q S fun g4 k4 v4 h4 tk4 X r => ?_
        obtain ⟨k5, rfl, vs', nn', rfl, hr'⟩ := r
        rw [over_one (o' := lstO vs' nn') (show one1 a (lstO vs' nn') a = some (lstO vs' nn') from setk_self)] at X
        exact hq g4 _ v4 h4 tk4 X ⟨vs', nn', ps', rfl, hr', hT'.mono X.sub⟩
      · rintro g3 k3 m3 s3 ⟨rfl, v, vs', nn', ps', rfl, hr', hT'⟩
        exact EX.nil ⟨rfl, (upd_ne (by decide)).trans e1, (upd_ne (by decide)).trans e2, vs', nn', setk_self, hr', ps', by rw [setk_ne ha85]; exact setk_self, hT'⟩
    · subst hl
      refine EX.then (E1.exprM (EM.callKw (fv := .ref 41) (RL := fun _ l => l = [.ref a, vp]) (RK := fun l g' k' v => l = [.ref a, vp] ∧ ∃ F ps', v = .ref F ∧ KeyOk prog w g' F b.length (kyOf b) ∧ k' = setk k2 85 (tabObj ps') ∧ TabOk lamQ g' ps')
        (R := fun g' k' _ => ∃ vs' nn' ps', k' = setk (setk k2 85 (tabObj ps')) a (lstO vs' nn') ∧ RpL prog w g' vs' (natL (rowOf (ltOf false (kyOf b)) (i + 1))) ∧ TabOk lamQ g' ps') (EP.glob B₁) ⟨_, _, B₁.at rfl, rfl⟩ ((EL.two (EP.loc (R := fun v => v = .ref a) ((upd_ne (by decide)).trans e1) rfl) (EP.loc (R := fun v => v = vp) upd_self rfl)).mono fun g' l s ⟨x, y, e, ex, ey⟩ => by rw [e, ex, ey]) ?_ ?_)) ?_
      · rintro g3 l s3 rfl
        refine (EM.lam (c := 89) (P := 85) (q := lamQ) (ps := ps1) (B₁.mono s3) e4 (hT1.mono s3)).mono ?_
        rintro g4 k4 v s4 ⟨F, c', ctv, pm, ps', rfl, gF, cr, rfl, hT'⟩
        refine ⟨rfl, F, ps', rfl, ⟨⟨_, _, gF, rfl⟩, fun g5 s5 j v hj hv => ?_⟩, rfl, hT'⟩
        have hget : b[j]? = some b[j] := List.getElem?_eq_getElem hj
        have B₅ := ((B₁.mono s3).mono s4).mono s5
        refine FE.body (binds := [("spot", v)]) (s5 _ _ gF) (cr.mono s5) B₅.lim (by rfl) (fun y hy => by rw [List.mem_singleton.mp hy]; rfl) (by decide) fun A' L' hh' hd' => EP.mono (EP.itemY (n := j) (EP.free (c := L + 1) (o := oc) rfl (.inr (s5 _ _ (s4 _ _ (s3 _ _ (s _ _ gc))))) hoc' hw) (EP.loc rfl hv) hget (by omega)) fun v h => ?_
        have e : kyOf b j = (b[j].toNat : Int) := by rw [kyOf, List.getD_eq_getElem?_getD, hget]; rfl
        rw [e]; exact h
      · rintro l g3 k3 v s3 ⟨rfl, F, ps', rfl, hkey, rfl, hT'⟩ st Q S hq
        have hsub : SubB (one1 a (lstO vs nn)) (setk k2 85 (tabObj ps')) := fun x o e => by
          by_cases hx : x = a
          · subst hx; rw [show one1 x (lstO vs nn) x = some (lstO vs nn) from setk_self] at e; cases e; rw [setk_ne (Ne.symm ha85)]; exact e3
          · rw [show one1 a (lstO vs nn) x = none from setk_ne hx] at e; cases e
        refine FK.toCM (insL_ok (nn := nn) (B₁.mono s3) (hr.mono s3) hrow (by rw [rowOf_len]; omega) hkey hvp hlt) hh hdp hsub st Q S fun g4 k4 v4 h4 tk4 X r => ?_
        obtain ⟨k5, rfl, vs', nn', rfl, hr'⟩ := r
        rw [over_one (o' := lstO vs' nn') (show one1 a (lstO vs' nn') a = some (lstO vs' nn') from setk_self)] at X
        exact hq g4 _ v4 h4 tk4 X ⟨vs', nn', ps', rfl, hr', hT'.mono X.sub⟩
      · rintro g3 k3 m3 s3 ⟨rfl, v, vs', nn', ps', rfl, hr', hT'⟩
        exact EX.nil ⟨rfl, (upd_ne (by decide)).trans e1, (upd_ne (by decide)).trans e2, vs', nn', setk_self, hr', ps', by rw [setk_ne ha85]; exact setk_self, hT'⟩
  · rintro g' k' m' s ⟨e1, e2, vs, nn, ps1, e3, hr, e4, hT1⟩
    rw [rng_len] at hr
    refine EX.ret (R₁ := fun _ v => v = .ref a) (EP.toV (EP.loc e1 rfl)) fun g3 v s3 _ hv dis => ?_
    subst hv
    exact ⟨⟨ps1, outK_at e4, (hT1.mono s3).mono outG_l⟩, .lst (outG_r dis e3 (by simp [one1, setk, nok, Ne.symm ha85])) ((hr.mono s3).mono outG_l)⟩
end Mine
end
/-! M23 -/
section
open PySem PySem.W PyProof.Rows PySem.Calls
open Sem (wp)
namespace Mine
theorem setk_comm {k : Bs} {a b : Addr} {o o' : Obj} (h : a ≠ b) : setk (setk k a o) b o' = setk (setk k b o') a o := by
  funext x
  unfold setk
  by_cases h1 : x = a
  · subst h1; simp [h]
  · simp [h1]
theorem ints_rp {prog : Program} {w : World} {g : Bs} : ∀ {vs : List Value} {ns : List Int}, IntsAre vs ns → RpL prog w g vs (ns.map .int)
  | _, _, .nil => .nil
  | _, _, .cons n t r => .cons (.int n t) (ints_rp r)
section
variable {prog : Program} {w : World} {A : Around} {env : Env} {g k : Bs} {m : Mp}
/-- a list's piece, by steps -/
theorem EV.sliceL {v : Expr} {lo hi st : Option Expr} {p pos : Pos} {ns : List Int} {l u c : Option Int} (hv : EP prog w A env g k m v fun o => Rp prog w g o (.lst (ns.map .int))) (hl : PT prog w A env g k m lo l) (hu : PT prog w A env g k m hi u) (hst : PT prog w A env g k m st c) (h0 : c ≠ some 0) (hz : ns.length ≤ sizeLine)
    (hs : ∀ o x, subscripted (.Slice lo hi st p) false o x = operate [o, x] (getItem o x) := by intro _ _; with_unfolding_all rfl) :
    EV prog w A env g k m (.Subscript v (.Slice lo hi st p) pos) fun g' o => Rp prog w g' o (.lst ((pickNums ns l u c).map .int)) := fun s Q S hq =>
  Subscript_ (hv s _ S fun o h₁ tk₁ l₁ ro => wpAny_Slice (hl ⟨h₁, s.gens, s.drawn, tk₁, s.os⟩ _ (S.leH l₁) fun vl h₂ tk₂ l₂ rl => hu ⟨h₂, s.gens, s.drawn, tk₂, s.os⟩ _ ((S.leH l₁).leH l₂) fun vu h₃ tk₃ l₃ ru => hst ⟨h₃, s.gens, s.drawn, tk₃, s.os⟩ _ (((S.leH l₁).leH l₂).leH l₃) fun vc h₄ tk₄ l₄ rc => by
    cases ro with
    | @lst a vs n _ e rl' =>
      have S₄ := (((S.leH l₁).leH l₂).leH l₃).leH l₄
      have hi := rl'.ints
      have hL : h₄.IsList a vs.toArray := ⟨_, S₄.leg _ _ e, rfl, _, rfl⟩
      have hsz : vs.toArray.size ≤ sizeLine := by rw [List.size_toArray, hi.length]; exact hz
      refine tail_any (ops := [.ref a, .ref h₄.objs.size]) (Heap.IsList.typeIs (s := ⟨h₄.push { cls := .type "slice", data := .fields #[vl, vu, vc] }, s.gens, s.drawn, tk₄, s.os⟩) (hL.push _)) list_getitem_lookup ?_ (hs _ _)
      refine wpAny_getItem_list_slice (s := ⟨h₄.push { cls := .type "slice", data := .fields #[vl, vu, vc] }, s.gens, s.drawn, tk₄, s.os⟩) (hL.push _) (Heap.IsSliceOf.new ..) rl ru rc h0 ?_ hsz
      have G4 : Gr g s.heap g h₄ := .leH S.leg (((l₁.trans l₂).trans l₃).trans l₄)
      have G5 := G4.trans (Gr.leH G4.leg (.push { cls := .type "slice", data := .fields #[vl, vu, vc] }))
      have G6 := Gr.push G5.leg (lstO (slicePick vs.toArray l u c).toList 0)
      have eo : ({ cls := .type "list", data := .seq (slicePick vs.toArray l u c) } : Obj) = lstO (slicePick vs.toArray l u c).toList 0 := by simp [lstO]
      show Q _ _
      rw [eo]
      exact hq _ _ _ _ (G5.trans G6) (.lst setk_self (ints_rp (hi.pick l u c)))))
theorem EV.subV {v i : Expr} {pos : Pos} {Rv R : Bs → Value → Prop} {Ri : Value → Prop} (hv : EV prog w A env g k m v Rv) (hi : ∀ g' o, SubB g g' → Rv g' o → EP prog w A env g' k m i Ri)
    (ht : ∀ g' o x (s : Shared) (Q : Value → Shared → Prop), Rv g' o → Ri x → St env.locals g' k m s.heap → (∀ v tk, R g' v → Q v { s with toks := tk }) → wpAny (model prog w) A (subscriptTail v i o x) Q nE s) :
    EV prog w A env g k m (.Subscript v i pos) R := fun s Q S hq =>
  Subscript_ (hv s _ S fun g' o h₁ tk₁ G ro => hi g' o G.sub ro ⟨h₁, s.gens, s.drawn, tk₁, s.os⟩ _ (S.grow G) fun x h₂ tk₂ l₂ rx => ht g' o x ⟨h₂, s.gens, s.drawn, tk₂, s.os⟩ _ ro rx ((S.grow G).leH l₂) fun v tk r => hq g' v h₂ tk (G.trans (.leH G.leg l₂)) r)
theorem EV.itemV {v i : Expr} {pos : Pos} {ds : List D} {d : D} {n : Int} (hv : EV prog w A env g k m v fun g' o => Rp prog w g' o (.lst ds)) (hi : EP prog w A env g k m i (isI n)) (h0 : 0 ≤ n) (h1 : n < 2 ^ 63) (hd : ds[n.toNat]? = some d)
    (hs : ∀ o x, subscripted i false o x = operate [o, x] (getItem o x) := by intro _ _; with_unfolding_all rfl) :
    EV prog w A env g k m (.Subscript v i pos) fun g' o => Rp prog w g' o d :=
  .subV hv (fun g' o s _ => hi.less s) fun g' o x s Q ro ⟨t, ex⟩ S hq => by
    subst ex
    cases ro with
    | lst e r =>
      obtain ⟨y, hy, ry⟩ := r.get hd
      have hL : s.heap.IsList _ _ := ⟨_, S.leg _ _ e, rfl, _, rfl⟩
      exact tail_any hL.typeIs slot_list_getitem.lookup (wpAny_getItem_list hL h0 h1 (by simpa using hy) (hq _ s.toks ry)) (hs _ _)
theorem EIM.list {iter target : Expr} {ds : List D} {KI : Bs → Bs → Prop} (hh : A.handled = none) (he : EM prog w A env g k m iter fun g' k' v => KI g' k' ∧ Rp prog w g' v (.lst ds)) (hdom : ∀ g' k', KI g' k' → ∀ b, k' b = none ↔ k b = none) : EIM prog w A env g k m iter target (ds.map ik) KI := fun s Q S hq => by
  refine he s _ S fun g' k' v h' tk E r => ?_
  obtain ⟨hki, r⟩ := r
  cases r with
  | @lst a vs n _ e rl =>
    have S' := E.st S
    have hL : h'.IsList a vs.toArray := ⟨_, E.leg _ _ e, rfl, _, rfl⟩
    have hlt : a < h'.objs.size := Heap.lt_size (E.leg _ _ e)
    have hne : a ≠ h'.objs.size := Nat.ne_of_lt hlt
    refine wpAny_pyIter_list (s := ⟨h', s.gens, s.drawn, tk, s.os⟩) hL ?_
    have nw : h'.get? h'.objs.size = none := Heap.get?_none_of_le (Nat.le_refl _)
    have og : g' h'.objs.size = none := by
      cases q : g' h'.objs.size with
      | none => rfl
      | some o => have := E.leg _ _ q; rw [nw] at this; cases this
    have os : s.heap.get? h'.objs.size = none := by
      cases q : s.heap.get? h'.objs.size with
      | none => rfl
      | some o =>
        cases q2 : k h'.objs.size with
        | none => have := E.pres _ _ q q2; rw [nw] at this; cases this
        | some o2 =>
          cases q3 : k' h'.objs.size with
          | none => rw [(hdom _ _ hki _).mp q3] at q2; cases q2
          | some o3 => have := E.lek _ _ q3; rw [nw] at this; cases this
    refine hq g' k' h'.objs.size [h'.objs.size, a] [h'.objs.size] _ _ _ (E.trans (.ofGr S' (.leH E.leg (.push _)))) hki (.ofWalks (Walks.list hh h'.objs.size a hne vs.toArray) (by rw [List.length_map, List.size_toArray, rl.length]) ?_ ?_ ⟨⟨_, Heap.get?_push_size _ rfl, rfl, rfl⟩, hL.at fun o x => Heap.get?_push_of_some _ x⟩ ?_ ?_ ?_ ?_)
    · intro i it v hi hv h l
      rw [List.getElem?_map] at hi
      obtain ⟨d, hd, rfl⟩ := Option.map_eq_some_iff.mp hi
      obtain ⟨v', hv', rv⟩ := rl.get hd
      have : v = v' := by
        have h1 : vs[i]? = some v := by simpa using hv
        rw [hv'] at h1; exact (Option.some.inj h1).symm
      subst this
      exact rv.vl l
    · intro b hb; rw [List.mem_singleton.mp hb]; exact og
    · intro b hb; rw [List.mem_singleton.mp hb]; exact os
    · intro b hb
      rcases List.mem_cons.mp hb with rfl | hb
      · exact .inl (.head _)
      · rw [List.mem_singleton.mp hb]; exact .inr ⟨_, e⟩
    · intro i h hT b hb
      rw [List.mem_singleton.mp hb]
      obtain ⟨⟨o, ho, _⟩, _⟩ := hT
      exact ⟨o, ho⟩
    · intro i v s' Q' hT hq'
      exact letGo_listiter hT.1 hq'
/-- three names from a tuple, the first a cell's -/
theorem E1.unpackC {x y z : Str} {px py pz tp pos : Pos} {n : Nat} {e : Expr} {d₁ d₂ d₃ : D} {c : Addr} {o : Obj} {v₀ : Option Value} (hh : A.handled = Option.none) (he : EV prog w A env g k m e fun g' v => Rp prog w g' v (.tup [d₁, d₂, d₃]))
    (hc : env.cells.lookup x = some c) (ho : k c = some o) (hd : o.data = .cell v₀) (hk : env.scope.kind = .function := by rfl) (hx : env.kindOf x = some .cell := by rfl) (hy : env.kindOf y = some .local := by rfl) (hz : env.kindOf z = some .local := by rfl) (hp : (env.scope.kind == .class || (env.scope.kind == .module && env.locals != env.globals)) = false := by rfl)
    (ht : (assignEach [.Name x px, .Name y py, .Name z pz] env) = [(false, fun v => assign (.Name x px) env v), (false, fun v => assign (.Name y py) env v), (false, fun v => assign (.Name z pz) env v)] := by rfl)
    (hs : swapsWithSole [.Tuple [.Name x px, .Name y py, .Name z pz] n tp] e pos.line env = pure false := by rfl) (hw : swappedStores [.Tuple [.Name x px, .Name y py, .Name z pz] n tp] e env = pure Option.none := by rfl) :
    E1 prog w A env g k m (.Assign [.Tuple [.Name x px, .Name y py, .Name z pz] n tp] e pos) (Nx fun g' k' m' => ∃ v₁ v₂ v₃ o', Rp prog w g' v₁ d₁ ∧ Rp prog w g' v₂ d₂ ∧ Rp prog w g' v₃ d₃ ∧ o'.data = .cell (some v₁) ∧ k' = setk k c o' ∧ m' = upd (upd m y v₂) z v₃) :=
  E1.unpack he (fun g' s => EA.three (R₁ := fun g2 k2 m2 => g2 = g' ∧ m2 = m ∧ ∃ v₁ o', Rp prog w g' v₁ d₁ ∧ o'.data = .cell (some v₁) ∧ k2 = setk k c o') (R₂ := fun g2 k2 m2 => g2 = g' ∧ ∃ v₁ o' v₂, Rp prog w g' v₁ d₁ ∧ o'.data = .cell (some v₁) ∧ k2 = setk k c o' ∧ Rp prog w g' v₂ d₂ ∧ m2 = upd m y v₂) hh
    ((EA.nameC hc ho hd hk hx).mono fun g2 k2 m2 s2 ⟨e1, e2, v, o', r, q, e3⟩ => ⟨e1, e2, v, o', r, q, e3⟩)
    (fun g2 k2 m2 s2 ⟨e1, e2, v, o', r, q, e3⟩ => (EA.name hy hp).mono fun g3 k3 m3 s3 ⟨f1, f2, v2, r2, f3⟩ => ⟨f1.trans e1, v, o', v2, r, q, f2.trans e3, e1 ▸ r2, by rw [f3, e2]⟩)
    (fun g2 k2 m2 s2 ⟨e1, v, o', v2, r, q, e3, r2, e4⟩ => (EA.name hz hp).mono fun g3 k3 m3 s3 ⟨f1, f2, v3, r3, f3⟩ => by
      subst f1 e1
      exact ⟨v, v2, v3, o', r, r2, r3, q, f2.trans e3, by rw [f3, e4]⟩) ht) hs hw
end
end Mine
end
/-! M24 -/
section
open PySem PySem.W PyProof.Rows PySem.Calls
open Sem (wp)
namespace Mine
/-- all as it was, but the table of laid's codes -/
noncomputable def KT (K : Bs) : Bs → Bs → Prop := fun g' k' => ∃ ps, k' = setk K 85 (tabObj ps) ∧ TabOk lamQ g' ps
theorem KT.mono {K g g' k : Bs} (x : KT K g k) (s : SubB g g') : KT K g' k := let ⟨ps, a, b⟩ := x; ⟨ps, a, b.mono s⟩
theorem KT.dom {K : Bs} {o : Obj} (h : K 85 = some o) : ∀ g' k', KT K g' k' → ∀ b, k' b = none ↔ K b = none := by
  rintro g' k' ⟨ps, rfl, _⟩ b
  unfold setk
  by_cases hb : b = 85
  · subst hb; simp [h]
  · simp [hb]
theorem KT.self {K g : Bs} {ps : Array Value} (h : K 85 = some (tabObj ps)) (t : TabOk lamQ g ps) : KT K g K := ⟨ps, (setk_same h).symm, t⟩
section
variable {prog : Program} {w : World} {A : Around} {env : Env} {g k : Bs} {m : Mp}
theorem EIM.mono {iter target : Expr} {its : List IK} {KI KI' : Bs → Bs → Prop} (h : EIM prog w A env g k m iter target its KI) (hr : ∀ g' k', SubB g g' → KI g' k' → KI' g' k') : EIM prog w A env g k m iter target its KI' := fun s Q S hq => h s Q S fun g' k' I fp wr T h' tk X r Y => hq g' k' I fp wr T h' tk X (hr g' k' X.sub r) Y
theorem EI.toKT {iter target : Expr} {its : List IK} {ps : Array Value} (h : EI prog w A env g k m iter target its) (hk : k 85 = some (tabObj ps)) (t : TabOk lamQ g ps) : EIM prog w A env g k m iter target its (KT k) :=
  (EI.toM h).mono fun g' k' s e => by
    have e' : k' = k := e
    subst e'
    exact KT.self hk (t.mono s)
theorem EM.laid {f : Str} {np pos : Pos} {e₁ e₂ : Expr} {bs : List UInt8} {later : Bool} {ps : Array Value} (B : Base w g) (hh : A.handled = none) (hd : A.depth + 4 < recursionLimit) (hf : EP prog w A env g k m (.Name f np) (isV (.ref 90))) (h₁ : EP prog w A env g k m e₁ (isY bs.toArray)) (h₂ : EP prog w A env g k m e₂ (isB later)) (hb : bs.length ≤ 4) (hk : k 85 = some (tabObj ps)) (hT : TabOk lamQ g ps)
    (hst : starEach [e₁, e₂] env = (false, eval e₁ env) :: starEach [e₂] env := by rfl) (hst' : starEach [e₂] env = (false, eval e₂ env) :: starEach [] env := by rfl) (hpl : ((backTo pos (starEach [e₁, e₂] env)).any (·.1) || (backToKw pos (keywordEach [] env)).any (·.1.isNone)) = false := by rfl) :
    EM prog w A env g k m (.Call (.Name f np) [e₁, e₂] [] pos) fun g' k' v => KT k g' k' ∧ Rp prog w g' v (.lst (natL (rowOf (ltOf later (kyOf bs)) bs.length))) :=
  EM.call hf ⟨_, _, B.at rfl, rfl⟩ (EL.two h₁ h₂ hst hst') (fun g' l s' ⟨v₁, v₂, e, r₁, r₂⟩ st Q S hq => by
    have r₂' : v₂ = .bool later := r₂
    subst e r₂'
    have hsub : SubB (one1 85 (tabObj ps)) k := fun x o e => by
      by_cases hx : x = 85
      · subst hx; rw [show one1 85 (tabObj ps) 85 = some (tabObj ps) from setk_self] at e; cases e; exact hk
      · rw [show one1 85 (tabObj ps) x = none from setk_ne hx] at e; cases e
    refine FK.toCM (laid_ok (B.mono s') (hT.mono s') hb r₁) hh hd hsub st Q S fun g2 k2 v2 h2 tk2 X r => ?_
    obtain ⟨k3, rfl, ⟨ps', rfl, hT'⟩, r3⟩ := r
    rw [over_one (o' := tabObj ps') (show one1 85 (tabObj ps') 85 = some (tabObj ps') from setk_self)] at X
    exact hq g2 _ v2 h2 tk2 X ⟨⟨ps', rfl, hT'⟩, r3⟩) hst hpl
/-- three ints in a tuple -/
theorem EV.tup3 {a b c : Int} {n₁ n₂ n₃ kk : Nat} {p₁ p₂ p₃ pos : Pos} : EV prog w A env g k m (.Tuple [.Constant (.int a) n₁ p₁, .Constant (.int b) n₂ p₂, .Constant (.int c) n₃ p₃] kk pos) fun g' v => Rp prog w g' v (.tup [.int a, .int b, .int c]) :=
  EV.tup (EL.rcons (EV.I EP.int) fun _ _ => EL.rtwo (EV.I EP.int) fun _ _ => EV.I EP.int) fun _ _ r => r
theorem EV.list3 {e₁ e₂ e₃ : Expr} {d₁ d₂ d₃ : D} {pos : Pos} (h₁ : EV prog w A env g k m e₁ fun g' v => Rp prog w g' v d₁) (h₂ : ∀ g', SubB g g' → EV prog w A env g' k m e₂ fun g' v => Rp prog w g' v d₂) (h₃ : ∀ g', SubB g g' → EV prog w A env g' k m e₃ fun g' v => Rp prog w g' v d₃)
    (q₁ : starEach [e₁, e₂, e₃] env = (false, eval e₁ env) :: starEach [e₂, e₃] env) (q₂ : starEach [e₂, e₃] env = (false, eval e₂ env) :: starEach [e₃] env) (q₃ : starEach [e₃] env = (false, eval e₃ env) :: starEach [] env) :
    EV prog w A env g k m (.List [e₁, e₂, e₃] pos) fun g' v => Rp prog w g' v (.lst [d₁, d₂, d₃]) :=
  EV.list (EL.rcons h₁ (fun g' s' => EL.rtwo (h₂ g' s') (fun g'' s'' => h₃ g'' (s'.trans s'')) q₂ q₃) q₁) fun _ _ r => r
/-- one of three, unpacked -/
theorem E1.menu {x y z : Str} {px py pz tp lp ip pos : Pos} {n : Nat} {e₁ e₂ e₃ i : Expr} {d₁ d₂ d₃ : D} {b₁ b₂ b₃ : D} {c : Addr} {o : Obj} {v₀ : Option Value} {q : Int} (hh : A.handled = Option.none)
    (h₁ : EV prog w A env g k m e₁ fun g' v => Rp prog w g' v d₁) (h₂ : ∀ g', SubB g g' → EV prog w A env g' k m e₂ fun g' v => Rp prog w g' v d₂) (h₃ : ∀ g', SubB g g' → EV prog w A env g' k m e₃ fun g' v => Rp prog w g' v d₃) (hi : EP prog w A env g k m i (isI q)) (h0 : 0 ≤ q) (h3 : q < 2 ^ 63) (hq : [d₁, d₂, d₃][q.toNat]? = some (.tup [b₁, b₂, b₃]))
    (hc : env.cells.lookup x = some c) (ho : k c = some o) (hd : o.data = .cell v₀)
    (q₁ : starEach [e₁, e₂, e₃] env = (false, eval e₁ env) :: starEach [e₂, e₃] env) (q₂ : starEach [e₂, e₃] env = (false, eval e₂ env) :: starEach [e₃] env) (q₃ : starEach [e₃] env = (false, eval e₃ env) :: starEach [] env)
    (q₄ : ∀ o x, subscripted i false o x = operate [o, x] (getItem o x)) (hk : env.scope.kind = .function) (hx : env.kindOf x = some .cell) (hy : env.kindOf y = some .local) (hz : env.kindOf z = some .local) (hp : (env.scope.kind == .class || (env.scope.kind == .module && env.locals != env.globals)) = false)
    (ht : (assignEach [.Name x px, .Name y py, .Name z pz] env) = [(false, fun v => assign (.Name x px) env v), (false, fun v => assign (.Name y py) env v), (false, fun v => assign (.Name z pz) env v)])
    (hs : swapsWithSole [.Tuple [.Name x px, .Name y py, .Name z pz] n tp] (.Subscript (.List [e₁, e₂, e₃] lp) i ip) pos.line env = pure false) (hw : swappedStores [.Tuple [.Name x px, .Name y py, .Name z pz] n tp] (.Subscript (.List [e₁, e₂, e₃] lp) i ip) env = pure Option.none) :
    E1 prog w A env g k m (.Assign [.Tuple [.Name x px, .Name y py, .Name z pz] n tp] (.Subscript (.List [e₁, e₂, e₃] lp) i ip) pos) (Nx fun g' k' m' => ∃ v₁ v₂ v₃ o', Rp prog w g' v₁ b₁ ∧ Rp prog w g' v₂ b₂ ∧ Rp prog w g' v₃ b₃ ∧ o'.data = .cell (some v₁) ∧ k' = setk k c o' ∧ m' = upd (upd m y v₂) z v₃) :=
  E1.unpackC hh (EV.itemV (EV.list3 h₁ h₂ h₃ q₁ q₂ q₃) hi h0 h3 hq q₄) hc ho hd hk hx hy hz hp ht hs hw
theorem EVR.cmpK {l r : Expr} {op : CmpOp} {pos : Pos} {Rl : Value → Prop} {Rr : Bs → Bs → Value → Prop} {R : Bs → Bs → Value → Prop} (hl : EP prog w A env g k m l Rl) (hr : EVR prog w A env g k m r Rr) (h : ∀ g' k' a b, Rl a → Rr g' k' b → ∃ c, CO prog w A op a b c ∧ R g' k' (.bool c)) (hm : behindInMarks op r = false := by rfl) :
    EVR prog w A env g k m (.Compare l [op] [r] pos) R := fun s Q S hq => by
  rw [eval_Compare1, markedBehindIn_of_false hm]
  refine wpR_first (hl s _ S fun a h₁ tk₁ l₁ ra => wpR_bind (wpR_holding (hr ⟨h₁, s.gens, s.drawn, tk₁, s.os⟩ _ (S.leH l₁) fun g' k' b h₂ tk₂ X rb => ?_)))
  obtain ⟨c, hc, hR⟩ := h g' k' a b ra rb
  exact wpR_bind (wpR_standAt (wpR_operate (wpR_of (hc _ _ fun tk => hq g' k' _ h₂ tk ((ExE.ofGr S (Gr.leH S.leg l₁)).trans X) hR))))
end
end Mine
end
/-! Q1 -/
section
open PySem PySem.W PyProof.Rows PySem.Calls
namespace Mine
/-- the words, by their letters' counts -/
noncomputable def cw (n : Nat) : Nat → List (List Nat)
  | 0 => [[]]
  | m + 1 => ((cw n m).map fun w => (List.range n).map fun c => w ++ [c]).flatten
noncomputable def kc (w : List Nat) (spot : Nat) : Int := ((w[spot]?.map (· + 1)).getD 0 : Nat)
noncomputable def rows1 (low many : Nat) : List (List Nat) := (cw low many).map fun w => rowOf (ltOf true (kc w)) many
noncomputable def rows2 (high many : Nat) : List (List Nat) := (cw high many).map fun w => (rowOf (ltOf false (kc w.reverse)) many).map fun p => many - 1 - p
noncomputable def hts (n many : Nat) : List (Int × Int) := (cw n many).map fun w => (0, (w.sum : Nat))
noncomputable def figD (l : List (List Nat × Int)) : List (Str × Int) := l.map fun q => (figS q.1, q.2)
noncomputable def shownOf (v : Int) : List UInt8 := apF 60 v.toNat
noncomputable def coreOf (o : Str) (v : Int) : Array UInt8 := KBy.picked (shownOf v).toArray none (some (((shownOf v).length : Int) - (fallsL o).sum))
noncomputable abbrev ChosenOk (o : Str) (v : Int) : Prop := 0 ≤ v ∧ v < 16 ^ 60 ∧ 0 < (coreOf o v).size ∧ (coreOf o v).size ≤ 60 ∧ (coreOf o v).toList.reverse = (coreOf o v).toList ∧ shownOf v = (coreOf o v).toList ++ List.replicate (fallsL o).sum.toNat 65 ∧ 0 ≤ (fallsL o).sum ∧ (fallsL o).sum ≤ 16
theorem rows1_ok {low many : Nat} (h : many ≤ 4) : ∀ r ∈ rows1 low many, r.length ≤ 4 ∧ ∀ p ∈ r, p < 4 := fun r hr => by
  obtain ⟨w, _, rfl⟩ := List.mem_map.mp hr
  exact ⟨by rw [rowOf_len]; exact h, fun p hp => Nat.lt_of_lt_of_le (rowOf_mem hp) h⟩
theorem rows2_ok {high many : Nat} (h : many ≤ 4) : ∀ r ∈ rows2 high many, r.length ≤ 4 ∧ ∀ p ∈ r, p < 4 := fun r hr => by
  obtain ⟨w, _, rfl⟩ := List.mem_map.mp hr
  refine ⟨by rw [List.length_map, rowOf_len]; exact h, fun p hp => ?_⟩
  obtain ⟨q, hq, rfl⟩ := List.mem_map.mp hp
  have := rowOf_mem hq
  omega
/-- a deal's tables, written out: the first round's, the second's, both -/
structure ShapeOk (many low high : Nat) (f s b : List (List Nat × Int)) : Prop where
  many1 : 2 ≤ many
  many4 : many ≤ 4
  low1 : 2 ≤ low
  low3 : low ≤ 3
  high1 : 2 ≤ high
  high3 : high ≤ 3
  size : 4 ≤ low * high ∧ low * high ≤ 12
  bits : Builtin.Int.intBits ((16 : Int) ^ low) ≤ 64
  cnt1 : 2 ≤ (cw low many).length ∧ (cw low many).length ≤ 100
  cnt2 : 2 ≤ (cw high many).length ∧ (cw high many).length ≤ 100
  ordL : ∀ o ∈ ordersL many, o.length = many
  ordN : 0 < (ordersL many).length ∧ (ordersL many).length ≤ 24
  first : tallyL (rows1 low many) (hts low many) 16 = figD f
  second : tallyL (rows2 high many) (hts high many) (16 ^ low) = figD s
  both : bothL (figD f) s = figD b
  lenF : f.length ≤ 100
  lenS : s.length ≤ 100
  fineF : ∀ p ∈ figD f, p.1.length ≤ 4 ∧ Builtin.Int.intBits p.2 ≤ 2 ^ 20
  fineS : ∀ q ∈ s, q.1.length ≤ 4 ∧ Builtin.Int.intBits q.2 ≤ 2 ^ 20 ∧ ∀ x ∈ q.1, x < 4 ∧ ∀ p ∈ figD f, x < p.1.length
  gauss : ∀ o ∈ ordersL many, getI (figD b) o 0 = gaussI o ((low * high : Nat) : Int)
  there : ∀ o ∈ ordersL many, ((figD b).find? fun p => p.1 = o).isSome = true
  chosen : ∀ o ∈ ordersL many, ChosenOk o (getI (figD b) o 0)
noncomputable def f_323 : List (List Nat × Int) := [([0, 1, 2], 4369), ([0, 2, 1], 16), ([1, 2, 0], 16), ([1, 0, 2], 256), ([2, 0, 1], 256)]
noncomputable def s_323 : List (List Nat × Int) := [([0, 1, 2], 282583111958785), ([0, 2, 1], 4311810304), ([1, 2, 0], 4311810304), ([1, 0, 2], 1103823437824), ([2, 0, 1], 1103823437824), ([2, 1, 0], 16777216)]
noncomputable def b_323 : List (List Nat × Int) := [([0, 1, 2], 1234907028935422481), ([0, 2, 1], 4823850982514960), ([1, 2, 0], 4823850982514960), ([1, 0, 2], 77181615720239360), ([2, 0, 1], 77181615720239360), ([2, 1, 0], 301486087147520)]
noncomputable def f_332 : List (List Nat × Int) := [([0, 1, 2], 17965585), ([0, 2, 1], 69904), ([1, 2, 0], 69904), ([1, 0, 2], 1118464), ([2, 0, 1], 1118464), ([2, 1, 0], 4096)]
noncomputable def s_332 : List (List Nat × Int) := [([0, 1, 2], 68736258049), ([0, 2, 1], 4096), ([1, 2, 0], 4096), ([1, 0, 2], 16777216), ([2, 0, 1], 16777216)]
noncomputable def b_332 : List (List Nat × Int) := [([0, 1, 2], 1234907028935422481), ([0, 2, 1], 4823850982514960), ([1, 2, 0], 4823850982514960), ([1, 0, 2], 77181615720239360), ([2, 0, 1], 77181615720239360), ([2, 1, 0], 301486087147520)]
noncomputable def f_422 : List (List Nat × Int) := [([0, 1, 2, 3], 69905), ([0, 1, 3, 2], 16), ([0, 2, 3, 1], 16), ([0, 2, 1, 3], 256), ([0, 3, 1, 2], 256), ([1, 2, 3, 0], 16), ([1, 2, 0, 3], 256), ([1, 3, 0, 2], 256), ([1, 0, 2, 3], 4096), ([2, 3, 0, 1], 256), ([2, 0, 1, 3], 4096), ([3, 0, 1, 2], 4096)]
noncomputable def s_422 : List (List Nat × Int) := [([0, 1, 2, 3], 4311810305), ([0, 1, 3, 2], 256), ([0, 2, 3, 1], 256), ([0, 2, 1, 3], 65536), ([0, 3, 1, 2], 65536), ([1, 2, 3, 0], 256), ([1, 2, 0, 3], 65536), ([1, 3, 0, 2], 65536), ([1, 0, 2, 3], 16777216), ([2, 3, 0, 1], 65536), ([2, 0, 1, 3], 16777216), ([3, 0, 1, 2], 16777216)]
noncomputable def b_422 : List (List Nat × Int) := [([0, 1, 2, 3], 301490686407185), ([0, 1, 3, 2], 73588154640), ([0, 2, 3, 1], 73588154640), ([0, 2, 1, 3], 1177410474240), ([0, 3, 1, 2], 1177410474240), ([1, 2, 3, 0], 73588154640), ([1, 2, 0, 3], 1177410474240), ([1, 3, 0, 2], 1177410474240), ([1, 0, 2, 3], 18838567587840), ([2, 3, 0, 1], 1177410474240), ([2, 0, 1, 3], 18838567587840), ([3, 0, 1, 2], 18838567587840), ([0, 3, 2, 1], 286330880), ([1, 3, 2, 0], 286330880), ([1, 0, 3, 2], 4581294080), ([3, 2, 0, 1], 73300705280), ([2, 3, 1, 0], 286330880), ([2, 1, 0, 3], 73300705280), ([2, 0, 3, 1], 4581294080), ([3, 1, 0, 2], 73300705280), ([3, 0, 2, 1], 4581294080), ([2, 1, 3, 0], 4581294080), ([3, 1, 2, 0], 4581294080), ([3, 2, 1, 0], 16777216)]
end Mine
end
/-! Q2 -/
section
open PySem PySem.W PyProof.Rows PySem.Calls
namespace Mine
/-! letters: strictly rising, below 16 -/
noncomputable def lettersI (draw : Int) (n : Nat) : List Int := (List.range n).map fun i => lastAt draw (i + 1)
theorem lettersD_eq (draw : Int) (n : Nat) : lettersD draw n = (lettersI draw n).map .int := by rw [lettersD, lettersI, List.map_map]; rfl
noncomputable def Rising (ls : List Int) (n : Nat) : Prop := ls.length = n ∧ (∀ l ∈ ls, 0 ≤ l ∧ l < 16) ∧ ∀ i j, i < j → j < n → ls.getD i 0 < ls.getD j 0
theorem last_step (draw : Int) (i : Nat) : lastAt draw i + 1 ≤ lastAt draw (i + 1) ∧ lastAt draw (i + 1) ≤ lastAt draw i + 5 := by
  have h1 : 0 ≤ (draw.fdiv (5 ^ i)).fmod 5 := Int.fmod_nonneg_of_pos _ (by decide)
  have h2 : (draw.fdiv (5 ^ i)).fmod 5 < 5 := Int.fmod_lt_of_pos _ (by decide)
  rw [lastAt]; omega
theorem last_rise (draw : Int) (i : Nat) : ∀ k, lastAt draw i + k ≤ lastAt draw (i + k)
  | 0 => by simp
  | k + 1 => by
    have := last_rise draw i k
    have h := (last_step draw (i + k)).1
    have e : i + (k + 1) = i + k + 1 := by omega
    rw [e]
    have e2 : ((k + 1 : Nat) : Int) = (k : Int) + 1 := by omega
    omega
theorem last_top (draw : Int) : ∀ k : Nat, lastAt draw k ≤ 5 * (k : Int) - 1 ∧ -1 ≤ lastAt draw k
  | 0 => by simp [lastAt]
  | k + 1 => by
    have := last_top draw k
    have h := last_step draw k
    omega
theorem letters_rising (draw : Int) {n : Nat} (hn : n ≤ 3) : Rising (lettersI draw n) n := by
  have get : ∀ i, i < n → (lettersI draw n).getD i 0 = lastAt draw (i + 1) := fun i hi => by
    rw [lettersI, List.getD_eq_getElem?_getD, List.getElem?_map, List.getElem?_range hi]; rfl
  refine ⟨by simp [lettersI], fun l hl => ?_, fun i j hij hj => ?_⟩
  · obtain ⟨i, hi, rfl⟩ := List.mem_map.mp hl
    have hi := List.mem_range.mp hi
    have h1 := last_top draw i
    have h2 := last_step draw i
    omega
  · rw [get i (by omega), get j hj]
    have := last_rise draw (i + 1) (j - i)
    have e : i + 1 + (j - i) = j + 1 := by omega
    rw [e] at this
    omega
/-! words -/
noncomputable def numW (ls : List Int) (w : List Nat) : Int := w.foldl (fun a c => 16 * a + ls.getD c 0) 0
noncomputable def wordP (ls : List Int) (w : List Nat) : Int × Int := (numW ls w, (w.sum : Nat))
theorem cw_len {n : Nat} : ∀ {m : Nat} {w : List Nat}, w ∈ cw n m → w.length = m ∧ ∀ c ∈ w, c < n
  | 0, w, h => by rw [cw, List.mem_singleton] at h; subst h; exact ⟨rfl, fun _ x => nomatch x⟩
  | m + 1, w, h => by
    rw [cw, List.mem_flatten] at h
    obtain ⟨l, hl, hw⟩ := h
    obtain ⟨v, hv, rfl⟩ := List.mem_map.mp hl
    obtain ⟨c, hc, rfl⟩ := List.mem_map.mp hw
    obtain ⟨h1, h2⟩ := cw_len hv
    refine ⟨by rw [List.length_append, h1]; rfl, fun x hx => ?_⟩
    rcases List.mem_append.mp hx with hx | hx
    · exact h2 x hx
    · rw [List.mem_singleton.mp hx]; exact List.mem_range.mp hc
theorem step_eq (ls : List Int) (p : Int × Int) : wordStep ls p = (List.range ls.length).map fun c => (16 * p.1 + ls.getD c 0, p.2 + (c : Int)) := by
  apply List.ext_getElem?
  intro i
  rw [wordStep, List.getElem?_zipWith, List.getElem?_map]
  by_cases h : i < ls.length
  · rw [List.getElem?_range h, List.getElem?_eq_getElem h]
    have e : ls.getD i 0 = ls[i] := by rw [List.getD_eq_getElem?_getD, List.getElem?_eq_getElem h]; rfl
    show some (16 * p.1 + ls[i], p.2 + (i : Int)) = some (16 * p.1 + ls.getD i 0, p.2 + (i : Int))
    rw [e]
  · have h' : (List.range ls.length)[i]? = none := by rw [List.getElem?_eq_none_iff]; simp; omega
    rw [h']; rfl
theorem words_eq (ls : List Int) : ∀ m, wordsL ls m = (cw ls.length m).map (wordP ls)
  | 0 => rfl
  | m + 1 => by
    rw [wordsL, words_eq ls m, cw, List.map_map, List.map_flatten, List.map_map]
    congr 1
    refine List.map_congr_left fun w _ => ?_
    show wordStep ls (wordP ls w) = ((List.range ls.length).map fun c => w ++ [c]).map (wordP ls)
    rw [step_eq, List.map_map]
    refine List.map_congr_left fun c _ => ?_
    simp [wordP, numW, List.foldl_append]
/-! bytes -/
noncomputable def byteL (ls : List Int) (c : Nat) : UInt8 := UInt8.ofNat (65 + (ls.getD c 0).toNat)
theorem wordB_snoc (m n l : Nat) (hl : l < 16) : wordB (m + 1) (16 * n + l) = wordB m n ++ [UInt8.ofNat (65 + l)] := by
  have e1 : (16 * n + l) / 16 = n := by omega
  have e2 : (16 * n + l) % 16 = l := by omega
  unfold wordB
  by_cases h : 16 * n + l = 0
  · have hn : n = 0 := by omega
    have hl0 : l = 0 := by omega
    subst hn hl0
    have h0 : ∀ f, apF f 0 = [] := fun f => by cases f <;> rfl
    rw [show 16 * 0 + 0 = 0 from rfl, h0, h0]
    simp [List.replicate_succ']
  · rw [apF, if_neg h, e1, e2, List.length_append, List.length_singleton, Nat.add_sub_add_right, List.append_assoc]
theorem numW_nonneg {ls : List Int} (hb : ∀ c, 0 ≤ ls.getD c 0) (w : List Nat) : 0 ≤ numW ls w := by
  unfold numW
  suffices h : ∀ (w : List Nat) (a : Int), 0 ≤ a → 0 ≤ w.foldl (fun a c => 16 * a + ls.getD c 0) a from h w 0 (Int.le_refl _)
  intro w
  induction w with
  | nil => exact fun a h => h
  | cons c r ih => exact fun a h => ih _ (by have h1 := hb c; show 0 ≤ 16 * a + ls.getD c 0; omega)
theorem getD_bounds {ls : List Int} (hb : ∀ l ∈ ls, 0 ≤ l ∧ l < 16) (c : Nat) : 0 ≤ ls.getD c 0 ∧ ls.getD c 0 < 16 := by
  rw [List.getD_eq_getElem?_getD]
  cases h : ls[c]? with
  | none => decide
  | some l => exact hb l (List.mem_of_getElem? h)
theorem wordB_eq {ls : List Int} (hb : ∀ l ∈ ls, 0 ≤ l ∧ l < 16) (w : List Nat) : wordB w.length (numW ls w).toNat = w.map (byteL ls) := by
  have hb' := getD_bounds hb
  suffices h : ∀ r : List Nat, wordB r.reverse.length (numW ls r.reverse).toNat = r.reverse.map (byteL ls) by
    have := h w.reverse
    rwa [List.reverse_reverse] at this
  intro r
  induction r with
  | nil => rfl
  | cons c r ih =>
    rw [List.reverse_cons, List.length_append, List.length_singleton, List.map_append]
    have hn : numW ls (r.reverse ++ [c]) = 16 * numW ls r.reverse + ls.getD c 0 := by simp [numW, List.foldl_append]
    have h0 := numW_nonneg (fun c => (hb' c).1) r.reverse
    have hc := hb' c
    have e : (16 * numW ls r.reverse + ls.getD c 0).toNat = 16 * (numW ls r.reverse).toNat + (ls.getD c 0).toNat := by omega
    rw [hn, e, wordB_snoc _ _ _ (by omega), ih]
    rfl
theorem text_eq {ls : List Int} (hb : ∀ l ∈ ls, 0 ≤ l ∧ l < 16) (m : Nat) : textL m (wordsL ls m) = ((cw ls.length m).map fun w => w.map (byteL ls)).flatten := by
  rw [textL, words_eq, List.map_map]
  congr 1
  refine List.map_congr_left fun w hw => ?_
  have hl := (cw_len hw).1
  show wordB m (numW ls w).toNat = _
  rw [← hl]
  exact wordB_eq hb w
/-! the places of a word in the text -/
theorem flat_slice {α : Type} {m : Nat} : ∀ (l : List (List α)), (∀ x ∈ l, x.length = m) → ∀ (i : Nat) (x : List α), l[i]? = some x → (l.flatten.drop (i * m)).take m = x
  | [], _, i, x, h => by cases i <;> cases h
  | y :: r, hl, 0, x, h => by
    cases h
    rw [Nat.zero_mul, List.drop_zero, List.flatten_cons, ← hl y (.head _)]
    simp
  | y :: r, hl, i + 1, x, h => by
    have ih := flat_slice r (fun z hz => hl z (.tail _ hz)) i x h
    have hy := hl y (.head _)
    rw [List.flatten_cons]
    have e : (i + 1) * m = y.length + i * m := by rw [Nat.succ_mul, hy, Nat.add_comm]
    rw [e, ← List.drop_drop, List.drop_left]
    exact ih
theorem picked_at (b : List UInt8) {a m : Nat} (h : a + m ≤ b.length) : KBy.picked b.toArray (some (a : Int)) (some ((a : Int) + (m : Int))) = ((b.drop a).take m).toArray := by
  rw [KBc.picked_eq]
  have e : (a : Int) + (m : Int) = ((a + m : Nat) : Int) := by omega
  simp only [e, Option.elim_some, clipAt_nat, List.size_toArray]
  rw [Nat.min_eq_left (by omega), Nat.min_eq_left (by omega), Nat.add_sub_cancel_left]
theorem turned_slice {W cnt : Nat} {data : List UInt8} {b : Array UInt8} (hT : Turned W data b cnt 0) (hb : b.size = cnt * W) (hd : data.length = cnt * W) {i : Nat} (hi : i < cnt) : (b.toList.drop (i * W)).take W = ((data.drop (i * W)).take W).reverse := by
  have hle : (i + 1) * W ≤ cnt * W := Nat.mul_le_mul_right _ hi
  rw [Nat.succ_mul] at hle
  have l1 : ((b.toList.drop (i * W)).take W).length = W := by rw [List.length_take, List.length_drop, Array.length_toList, hb]; omega
  have l2 : ((data.drop (i * W)).take W).length = W := by rw [List.length_take, List.length_drop, hd]; omega
  apply List.ext_getElem?
  intro r
  by_cases hr : r < W
  · have h1 := hT i (W - 1 - r) (by omega) (.inl hi)
    have e : W - 1 - (W - 1 - r) = r := by omega
    rw [e] at h1
    rw [List.getElem?_reverse (by rw [l2]; exact hr), l2, List.getElem?_take_of_lt hr, List.getElem?_take_of_lt (by omega), List.getElem?_drop, List.getElem?_drop, Array.getElem?_toList]
    exact h1
  · rw [List.getElem?_eq_none_iff.mpr (by rw [l1]; omega), List.getElem?_eq_none_iff.mpr (by rw [List.length_reverse, l2]; omega)]
/-! rows turn on the counts alone -/
theorem ky_cmp {ls : List Int} {n : Nat} (hR : Rising ls n) {w : List Nat} (hw : ∀ c ∈ w, c < n) (a b : Nat) : decide (kyOf (w.map (byteL ls)) a < kyOf (w.map (byteL ls)) b) = decide (kc w a < kc w b) := by
  have val0 : ∀ s, w[s]? = none → kyOf (w.map (byteL ls)) s = 0 := fun s h => by
    unfold kyOf
    rw [List.getD_eq_getElem?_getD, List.getElem?_map, h]
    rfl
  have valS : ∀ s c, w[s]? = some c → kyOf (w.map (byteL ls)) s = 65 + ls.getD c 0 := fun s c h => by
    unfold kyOf
    rw [List.getD_eq_getElem?_getD, List.getElem?_map, h]
    have h1 := getD_bounds hR.2.1 c
    have e : (byteL ls c).toNat = 65 + (ls.getD c 0).toNat := by
      unfold byteL
      rw [UInt8.toNat_ofNat']
      exact Nat.mod_eq_of_lt (by omega)
    show (((byteL ls c).toNat : Nat) : Int) = 65 + ls.getD c 0
    rw [e]
    omega
  have k0 : ∀ s, w[s]? = none → kc w s = 0 := fun s h => by unfold kc; rw [h]; rfl
  have kS : ∀ (s c : Nat), w[s]? = some c → kc w s = (c : Int) + 1 := fun s c h => by unfold kc; rw [h]; rfl
  have mono : ∀ c d, c < n → d < n → (ls.getD c 0 < ls.getD d 0 ↔ c < d) := fun c d hc hd => by
    constructor
    · intro h
      rcases Nat.lt_trichotomy c d with q | q | q
      · exact q
      · subst q; omega
      · have := hR.2.2 d c q hc; omega
    · exact fun h => hR.2.2 c d h hd
  cases ha : w[a]? with
  | none =>
    rw [val0 a ha, k0 a ha]
    cases hb : w[b]? with
    | none => rw [val0 b hb, k0 b hb]
    | some d =>
      rw [valS b d hb, kS b d hb, decide_eq_decide]
      have := getD_bounds hR.2.1 d
      omega
  | some c =>
    have hc := getD_bounds hR.2.1 c
    rw [valS a c ha, kS a c ha]
    cases hb : w[b]? with
    | none =>
      rw [val0 b hb, k0 b hb, decide_eq_decide]; omega
    | some d =>
      have := mono c d (hw c (List.mem_of_getElem? ha)) (hw d (List.mem_of_getElem? hb))
      rw [valS b d hb, kS b d hb, decide_eq_decide]
      omega
theorem row_eq {ls : List Int} {n : Nat} (hR : Rising ls n) {w : List Nat} (hw : ∀ c ∈ w, c < n) (later : Bool) (m : Nat) : rowOf (ltOf later (kyOf (w.map (byteL ls)))) m = rowOf (ltOf later (kc w)) m := by
  have e : ltOf later (kyOf (w.map (byteL ls))) = ltOf later (kc w) := by
    funext a b
    unfold ltOf
    rw [ky_cmp hR hw, ky_cmp hR hw]
  rw [e]
theorem tally_hts (unit : Int) (f : List Nat → Int) : ∀ (rows : List (List Nat)) (l : List (List Nat)) (acc : List (Str × Int)),
    (rows.zip (l.map fun w => (f w, ((w.sum : Nat) : Int)))).foldl (tallyStep unit) acc = (rows.zip (l.map fun w => ((0 : Int), ((w.sum : Nat) : Int)))).foldl (tallyStep unit) acc
  | [], l, acc => by simp
  | r :: rows, [], acc => by simp
  | r :: rows, w :: l, acc => by
    simp only [List.map_cons, List.zip_cons_cons, List.foldl_cons]
    exact tally_hts unit f rows l _
theorem tally_eq (unit : Int) (ls : List Int) (rows : List (List Nat)) (m : Nat) : tallyL rows (wordsL ls m) unit = tallyL rows (hts ls.length m) unit := by
  rw [tallyL, tallyL, words_eq]
  exact tally_hts unit (numW ls) rows _ []
end Mine
end
/-! Q3 -/
section
open PySem PySem.W PyProof.Rows PySem.Calls
namespace Mine
set_option maxHeartbeats 1000000 in
theorem shape_323 : ShapeOk 3 2 3 f_323 s_323 b_323 := by constructor <;> decide +kernel
set_option maxHeartbeats 1000000 in
theorem shape_332 : ShapeOk 3 3 2 f_332 s_332 b_332 := by constructor <;> decide +kernel
set_option maxHeartbeats 1000000 in
theorem shape_422 : ShapeOk 4 2 2 f_422 s_422 b_422 := by constructor <;> decide +kernel
end Mine
end
/-! P14 -/
section
open PySem PySem.W PyProof.Rows PySem.Calls
open Sem (wp)
namespace Mine
noncomputable def cellsOf (ns : List Int) (i : Nat) : List Int := (pickNums ns (some (i : Int)) (some 12) (some 3)).map fun c => c.fmod 1000000
noncomputable def drawI (ns : List Int) (i : Nat) : Int := ([9, 5, 31] : List Int).getD i 0 + (cellsOf ns i).sum
theorem pick_len (ns : List Int) (l u c : Option Int) : (pickNums ns l u c).length ≤ ns.length := by
  have h : IntsAre (ns.map fun n => Value.int n 0) ns := by
    induction ns with
    | nil => exact .nil
    | cons n r ih => exact .cons n 0 ih
  exact length_pickNums_le h l u c
theorem shapes (n : Int) (h0 : 0 ≤ n) (h3 : n < 3) : ∃ many low high f s b, ShapeOk many low high f s b ∧ ([.tup [.int 3, .int 2, .int 3], .tup [.int 4, .int 2, .int 2], .tup [.int 3, .int 3, .int 2]] : List D)[n.toNat]? = some (.tup [.int (many : Nat), .int (low : Nat), .int (high : Nat)]) := by
  have : n = 0 ∨ n = 1 ∨ n = 2 := by omega
  rcases this with rfl | rfl | rfl
  · exact ⟨3, 2, 3, _, _, _, shape_323, rfl⟩
  · exact ⟨4, 2, 2, _, _, _, shape_422, rfl⟩
  · exact ⟨3, 3, 2, _, _, _, shape_332, rfl⟩
theorem addr_ne {L : Addr} {i j : Nat} (h : i ≠ j) : L + i ≠ L + j := fun e => h (Nat.add_left_cancel e)
theorem sum_le {n : Nat} : ∀ {w : List Nat}, (∀ c ∈ w, c < n) → w.sum ≤ n * w.length
  | [], _ => by simp
  | c :: r, h => by
    have ih := sum_le (w := r) fun x hx => h x (.tail _ hx)
    have hc := h c (.head _)
    rw [List.sum_cons, List.length_cons, Nat.mul_succ]
    omega
theorem hts_le {ls : List Int} {n many : Nat} (hn : n ≤ 3) (hm : many ≤ 4) : ∀ p ∈ (cw n many).map (wordP ls), 0 ≤ p.2 ∧ p.2 ≤ 100 := fun p hp => by
  obtain ⟨w, hw, rfl⟩ := List.mem_map.mp hp
  obtain ⟨h1, h2⟩ := cw_len hw
  have h3 := sum_le h2
  rw [h1] at h3
  have h4 : n * many ≤ 3 * 4 := Nat.mul_le_mul hn hm
  show 0 ≤ ((w.sum : Nat) : Int) ∧ ((w.sum : Nat) : Int) ≤ 100
  omega
theorem some_ne {K : Bs} {x y : Addr} {o : Obj} (a : K x = some o) (b : K y = none) : x ≠ y := fun e => by rw [e, b] at a; cases a
theorem lay_ne {K : Bs} {D x : Addr} {t o o' : Obj} (kx : K x = some o') (hx : 85 ≠ x) (kD : setk K 85 t D = none) : setk (setk K 85 t) D o x = some o' := by
  have h1 : setk K 85 t x = some o' := (setk_ne (Ne.symm hx)).trans kx
  exact (setk_ne (some_ne h1 kD)).trans h1
theorem lay_85 {K : Bs} {D : Addr} {t o : Obj} (kD : setk K 85 t D = none) : setk (setk K 85 t) D o 85 = some t := (setk_ne (some_ne (setk_self : setk K 85 t 85 = some t) kD)).trans setk_self
theorem lay_turn {K : Bs} {D : Addr} {t t' o : Obj} (kD : setk K 85 t D = none) : setk (setk (setk K 85 t) D o) 85 t' = setk (setk K 85 t') D o := by
  rw [setk_comm (Ne.symm (some_ne (setk_self : setk K 85 t 85 = some t) kD)), setk_setk]
set_option maxHeartbeats 4000000 in
theorem law_ok {prog : Program} {w : World} {g : Bs} (B : Base w g) {vs : Value} {ns : List Int} (hscript : Rp prog w g vs (.lst (ns.map .int))) (hn : ns.length ≤ 63) :
    FR prog w 6 122 [vs] [] g (one1 85 (tabObj #[])) (fun _ k' v => v = .bool true ∧ ∃ ps, k' = one1 85 (tabObj ps)) := by
  refine FR.body (binds := [("script", vs)]) (B.at rfl) (by rfl) (B.code rfl) B.lim (BD.of_eq (by rfl)) (by rfl) ?_
  intro A L k hh hdp sub hcells
  obtain ⟨nS, oS, kS, hS⟩ := hcells "script" (L + 1) rfl
  obtain ⟨nM, oM, kM, hM⟩ := hcells "many" (L + 2) rfl
  obtain ⟨nT, oT, kT, hT⟩ := hcells "text" (L + 3) rfl
  obtain ⟨nU, oU, kU, hU⟩ := hcells "turned" (L + 4) rfl
  have hS' : oS.data = .cell (some vs) := hS
  have hM' : oM.data = .cell none := hM
  have hT' : oT.data = .cell none := hT
  have hU' : oU.data = .cell none := hU
  have k85 : k 85 = some (tabObj #[]) := sub _ _ setk_self
  have ne85 : ∀ x, one1 85 (tabObj #[]) x = none → 85 ≠ x := fun x h e => by rw [← e] at h; exact absurd (h.symm.trans (setk_self : one1 85 (tabObj #[]) 85 = _)) (by intro h; cases h)
  have n1 := ne85 _ nS
  have n2 := ne85 _ nM
  have n3 := ne85 _ nT
  have n4 := ne85 _ nU
  clear hcells hS hM hT hU
  -- draws
  refine EXR.then (CKM.set (CK.one (its := enumL [.int 9, .int 5, .int 31]) (ds := [drawI ns 0, drawI ns 1, drawI ns 2].map .int) rfl (by rw [sizeLine_eq]; show 3 ≤ 16777216; decide) (EI.enum hh rfl (EP.bi B) (EV.list (EL.rcons (EV.I EP.int) fun _ _ => EL.rtwo (EV.I EP.int) fun _ _ => EV.I EP.int) fun _ _ r => r)) ?_)) ?_
  · intro C i it d g1 k1 m1 s1 sk hi hd
    obtain ⟨d0, hd0, rfl⟩ := enum_get hi
    have hi3 : i < 3 := (List.getElem?_eq_some_iff.mp hd0).1
    have hd0' : d0 = .int (([9, 5, 31] : List Int).getD i 0) := by
      have : i = 0 ∨ i = 1 ∨ i = 2 := by omega
      rcases this with rfl | rfl | rfl <;> (cases hd0; rfl)
    have hdd : d = .int (drawI ns i) := by
      have : i = 0 ∨ i = 1 ∨ i = 2 := by omega
      rcases this with rfl | rfl | rfl <;> (cases hd; rfl)
    subst hd0' hdd
    have B1 := B.mono s1
    refine EA.mono (EA.names2 hh) ?_
    rintro g2 k2 m2 s2 ⟨rfl, rfl, vp, vst, rp, rst, rfl⟩
    refine ⟨rfl, EV.I (EP.add (EP.loc upd_self rst.isI) (EP.sum (ns := cellsOf ns i) hh (EP.bi B1) (CKM.ev (CK.one (its := ((pickNums ns (some (i : Int)) (some 12) (some 3)).map .int).map ik) ?_ ?_ ?_ ?_))))⟩
    · simp [cellsOf]
    · have := pick_len ns (some (i : Int)) (some 12) (some 3)
      rw [cellsOf, List.length_map, List.length_map, sizeLine_eq]; omega
    · refine EI.list hh (EV.sliceL (EP.cell (c := L + 1) (o := oS) rfl (.inl (sk _ _ kS)) hS' (hscript.mono s1)) (PT.at (EP.loc ((upd_ne (by decide)).trans upd_self) rp.isI)) (PT.at EP.int) (PT.at EP.int) (by decide) (by rw [sizeLine_eq]; omega))
    · intro C2 j it d g3 k3 m3 s3 sk3 hj hd
      rw [List.getElem?_map, List.getElem?_map] at hj
      rw [cellsOf, List.getElem?_map, List.getElem?_map] at hd
      obtain ⟨d1, hd1, rfl⟩ := Option.map_eq_some_iff.mp hj
      obtain ⟨c, hc, rfl⟩ := Option.map_eq_some_iff.mp hd1
      rw [hc] at hd
      cases hd
      refine EA.mono EA.name ?_
      rintro g4 k4 m4 s4 ⟨rfl, rfl, vc, rc, rfl⟩
      refine ⟨rfl, EV.I (EP.mono (EP.fmod (EP.loc upd_self rc.isI) (EP.pow EP.int EP.int (by decide) (by decide)) (by decide)) fun v h => h)⟩
  rintro g1 k1 m1 s1 ⟨rfl, vd, hvd, rfl⟩
  have B1 := B.mono s1
  have h3a : 0 ≤ (drawI ns 0).fmod 3 := Int.fmod_nonneg_of_pos _ (by decide)
  have h3b : (drawI ns 0).fmod 3 < 3 := Int.fmod_lt_of_pos _ (by decide)
  obtain ⟨many, low, high, f, s, b, H, hshape⟩ := shapes _ h3a h3b
  -- many, low, high
  refine @EXR.then _ _ _ _ _ _ _ _ _ _ _ (@E1.menu prog w A _ g1 k1 _ _ _ _ _ _ _ _ _ _ _ _ _ _ _ _ _ _ _ (.int (many : Int)) (.int (low : Int)) (.int (high : Int)) (L + 2) oM none _ hh EV.tup3 (fun _ _ => EV.tup3) (fun _ _ => EV.tup3)
    (EP.fmod (EP.mono (EP.item (n := 0) (d := .int (drawI ns 0)) (EP.loc (v := vd) rfl hvd) EP.int (by decide) (by decide) rfl) fun v h => h.isI) EP.int (by decide)) h3a (by omega) hshape rfl kM hM'
    (by rfl) (by rfl) (by rfl) (by intro _ _; with_unfolding_all rfl) (by rfl) (by rfl) (by rfl) (by rfl) (by rfl) (by rfl) (by rfl) (by rfl)) ?_
  rintro g2 k2 m2 s2 ⟨vM, vlo, vhi, oM2, rM, rlo, rhi, hM2, rfl, hm2⟩
  have md : m2 "draws" = some vd := by rw [hm2]; rfl
  have mlo : m2 "low" = some vlo := by rw [hm2]; rfl
  have mhi : m2 "high" = some vhi := by rw [hm2]; rfl
  clear hm2
  have B2 := B1.mono s2
  have iM := rM.isI
  have ilo := rlo.isI
  have ihi := rhi.isI
  clear rM rlo rhi
  obtain ⟨l1, hl1, R1⟩ : ∃ l1, lettersD (drawI ns 1) low = l1.map .int ∧ Rising l1 low := ⟨_, lettersD_eq _ _, letters_rising _ H.low3⟩
  obtain ⟨l2, hl2, R2⟩ : ∃ l2, lettersD (drawI ns 2) high = l2.map .int ∧ Rising l2 high := ⟨_, lettersD_eq _ _, letters_rising _ H.high3⟩
  -- words
  refine EXR.then (E1.set (EV.call (fv := .ref 76) (RL := fun g' l => ∃ v1 v2, l = [v1, v2] ∧ Rp prog w g' v1 (.lst (l1.map .int)) ∧ isI (many : Int) v2) (R := fun g' v => Rp prog w g' v (wordsD l1 many)) (EP.glob B2) ⟨_, _, B2.at rfl, rfl⟩
    (EL.cons (R₁ := fun g' v => Rp prog w g' v (.lst (l1.map .int))) (EV.call (fv := .ref 71) (RL := fun _ l => ∃ v1 v2, l = [v1, v2] ∧ isI (drawI ns 1) v1 ∧ isI (low : Int) v2) (R := fun g' v => Rp prog w g' v (.lst (l1.map .int))) (EP.glob B2) ⟨_, _, B2.at rfl, rfl⟩
      (EL.two (EP.mono (EP.item (n := 1) (d := .int (drawI ns 1)) (EP.loc (v := vd) md (hvd.mono s2)) EP.int (by decide) (by decide) rfl) fun v h => h.isI) (EP.loc (v := vlo) mlo ilo)) fun g' l s' ⟨v1, v2, e, i1, i2⟩ => by
        rw [e, ← hl1]
        exact FS.toCV (letters_ok (B2.mono s') (by have := H.low3; omega) i1 i2) hh (by omega)) fun g' v s' r => EL.cons (R₁ := fun _ v => isI (many : Int) v) (EP.toV (EP.cell (c := L + 2) (o := oM2) rfl (.inl setk_self) hM2 iM)) fun g'' v' s'' r' => EL.nil ⟨v, v', rfl, r.mono s'', r'⟩)
    fun g' l s' ⟨v1, v2, e, i1, i2⟩ => by
      rw [e]
      exact FS.toCV (words_ok (B2.mono s') R1.2.1 (by rw [R1.1]; exact H.low3) H.many4 i1 i2) hh (by omega))) ?_
  rintro g3 k3 m3 s3 ⟨rfl, vw, hvw, rfl⟩
  have B3 := B2.mono s3
  -- others
  refine EXR.then (E1.set (EV.call (fv := .ref 76) (RL := fun g' l => ∃ v1 v2, l = [v1, v2] ∧ Rp prog w g' v1 (.lst (l2.map .int)) ∧ isI (many : Int) v2) (R := fun g' v => Rp prog w g' v (wordsD l2 many)) (EP.glob B3) ⟨_, _, B3.at rfl, rfl⟩
    (EL.cons (R₁ := fun g' v => Rp prog w g' v (.lst (l2.map .int))) (EV.call (fv := .ref 71) (RL := fun _ l => ∃ v1 v2, l = [v1, v2] ∧ isI (drawI ns 2) v1 ∧ isI (high : Int) v2) (R := fun g' v => Rp prog w g' v (.lst (l2.map .int))) (EP.glob B3) ⟨_, _, B3.at rfl, rfl⟩
      (EL.two (EP.mono (EP.item (n := 2) (d := .int (drawI ns 2)) (EP.loc (v := vd) ((upd_ne (by decide)).trans md) ((hvd.mono s2).mono s3)) EP.int (by decide) (by decide) rfl) fun v h => h.isI) (EP.loc (v := vhi) ((upd_ne (by decide)).trans mhi) ihi)) fun g' l s' ⟨v1, v2, e, i1, i2⟩ => by
        rw [e, ← hl2]
        exact FS.toCV (letters_ok (B3.mono s') (by have := H.high3; omega) i1 i2) hh (by omega)) fun g' v s' r => EL.cons (R₁ := fun _ v => isI (many : Int) v) (EP.toV (EP.cell (c := L + 2) (o := oM2) rfl (.inl setk_self) hM2 iM)) fun g'' v' s'' r' => EL.nil ⟨v, v', rfl, r.mono s'', r'⟩)
    fun g' l s' ⟨v1, v2, e, i1, i2⟩ => by
      rw [e]
      exact FS.toCV (words_ok (B3.mono s') R2.2.1 (by rw [R2.1]; exact H.high3) H.many4 i1 i2) hh (by omega))) ?_
  rintro g4 k4 m4 s4 ⟨rfl, vo, hvo, rfl⟩
  have B4 := B3.mono s4
  have hvw4 := hvw.mono s4
  have hvd4 := (((hvd.mono s2).mono s3).mono s4)
  clear hvw hvd
  have w1 := words_eq l1 many
  have w2 := words_eq l2 many
  rw [R1.1] at w1
  rw [R2.1] at w2
  have c1 : 2 ≤ (wordsL l1 many).length ∧ (wordsL l1 many).length ≤ 100 := by rw [w1, List.length_map]; exact H.cnt1
  have c2 : 2 ≤ (wordsL l2 many).length ∧ (wordsL l2 many).length ≤ 100 := by rw [w2, List.length_map]; exact H.cnt2
  have hb1 : ∀ p ∈ wordsL l1 many, 0 ≤ p.1 ∧ p.1 < 16 ^ many := fun p hp => wordsL_bound R1.2.1 hp
  have hb2 : ∀ p ∈ wordsL l2 many, 0 ≤ p.1 ∧ p.1 < 16 ^ many := fun p hp => wordsL_bound R2.2.1 hp
  have kk3 : setk k1 (L + 2) oM2 (L + 3) = some oT := (setk_ne (addr_ne (by decide))).trans kT
  -- text
  refine @EXR.then _ _ _ _ _ _ _ _ _ _ _ (E1.setC (c := L + 3) (o := oT) (v₀ := none) (R := fun _ v => isY (textL many (wordsL l1 many)).toArray v) (EV.call (fv := .ref 83) (RL := fun _ l => ∃ v1 v2, l = [v1, v2] ∧ v1 = vw ∧ isI (many : Int) v2) (EP.glob B4) ⟨_, _, B4.at rfl, rfl⟩
      (EL.two (EP.loc (R := fun v => v = vw) ((upd_ne (by decide)).trans upd_self) rfl) (EP.cell (c := L + 2) (o := oM2) rfl (.inl setk_self) hM2 iM)) fun g' l s' ⟨v1, v2, e, e1, i2⟩ => by
        rw [e, e1]
        exact FS.toCV (text_ok (B4.mono s') H.many4 hb1 c1.1 (by omega) (hvw4.mono s') i2) hh (by omega)) rfl kk3 hT') ?_
  rintro g5 K5 m5 s5 ⟨rfl, vt, oT2, hvt, hT2, hK5⟩
  have B5 := B4.mono s5
  have kM5 : K5 (L + 2) = some oM2 := by rw [hK5]; exact (setk_ne (addr_ne (by decide))).trans setk_self
  have kU5 : K5 (L + 4) = some oU := by rw [hK5]; exact ((setk_ne (addr_ne (by decide))).trans (setk_ne (addr_ne (by decide)))).trans kU
  have k85b : K5 85 = some (tabObj #[]) := by rw [hK5]; exact ((setk_ne n3).trans (setk_ne n2)).trans k85
  have kT5 : K5 (L + 3) = some oT2 := by rw [hK5]; exact setk_self
  clear hK5
  -- turned
  refine @EXR.thenR _ _ _ _ _ _ _ _ _ _ _ (E1R.setC (c := L + 4) (R := fun _ k' v => k' = K5 ∧ ∃ b : Array UInt8, isY b v ∧ b.size = (wordsL l2 many).length * many ∧ Turned many (textL many (wordsL l2 many)) b (wordsL l2 many).length 0) (EVR.call (fv := .ref 64) (RL := fun _ l => ∃ v1 v2, l = [v1, v2] ∧ isY (textL many (wordsL l2 many)).toArray v1 ∧ isI (many : Int) v2) (EP.glob B5) ⟨_, _, B5.at rfl, rfl⟩
      (EL.cons (R₁ := fun _ v => isY (textL many (wordsL l2 many)).toArray v) (EV.call (fv := .ref 83) (RL := fun _ l => ∃ v1 v2, l = [v1, v2] ∧ v1 = vo ∧ isI (many : Int) v2) (EP.glob B5) ⟨_, _, B5.at rfl, rfl⟩
        (EL.two (EP.loc (R := fun v => v = vo) upd_self rfl) (EP.cell (c := L + 2) (o := oM2) rfl (.inl kM5) hM2 iM)) fun g' l s' ⟨v1, v2, e, e1, i2⟩ => by
          rw [e, e1]
          exact FS.toCV (text_ok (B5.mono s') H.many4 hb2 c2.1 (by omega) ((hvo.mono s5).mono s') i2) hh (by omega)) fun g' v s' r => EL.cons (R₁ := fun _ v => isI (many : Int) v) (EP.toV (EP.cell (c := L + 2) (o := oM2) rfl (.inl kM5) hM2 iM)) fun g'' v' s'' r' => EL.nil ⟨v, v', rfl, r, r'⟩) fun g' l s' ⟨v1, v2, e, i1, i2⟩ => by
        rw [e]
        have hlen : (textL many (wordsL l2 many)).length = (wordsL l2 many).length * many := by rw [textL_len, Nat.mul_comm]
        have hm := H.many4
        have hm1 := H.many1
        have hz : (wordsL l2 many).length * many ≤ 100 * 4 := Nat.mul_le_mul c2.2 hm
        intro st Q S hq
        refine FR.toCMR (byteswap_ok (B5.mono s') (by omega) (by omega) hlen (by omega) i1 i2) hh (by omega) (fun _ _ e => nomatch e) st Q S fun g2 k2 v2 h2 tk2 X r => ?_
        obtain ⟨k3, rfl, hr⟩ := r
        exact hq g2 _ v2 h2 tk2 X ⟨over_nok, hr⟩) rfl fun g' k' v r => ⟨oU, none, by rw [r.1]; exact kU5, hU'⟩) ?_
  rintro g6 K6 m6 s6 ⟨rfl, vu, k6', oU2, ⟨hk6, tb, hvu, htb, hTu⟩, hU2, hK6⟩
  have B6 := B5.mono s6
  rw [hk6] at hK6
  have kM6 : K6 (L + 2) = some oM2 := by rw [hK6]; exact (setk_ne (addr_ne (by decide))).trans kM5
  have kT6 : K6 (L + 3) = some oT2 := by rw [hK6]; exact (setk_ne (addr_ne (by decide))).trans kT5
  have kU6 : K6 (L + 4) = some oU2 := by rw [hK6]; exact setk_self
  have k85c : K6 85 = some (tabObj #[]) := by rw [hK6]; exact (setk_ne n4).trans k85b
  clear hK6 hk6
  have hm := H.many4
  have hm1 := H.many1
  have t1len : (textL many (wordsL l1 many)).length = (wordsL l1 many).length * many := by rw [textL_len, Nat.mul_comm]
  have t2len : (textL many (wordsL l2 many)).length = (wordsL l2 many).length * many := by rw [textL_len, Nat.mul_comm]
  have z1 : (wordsL l1 many).length * many ≤ 100 * 4 := Nat.mul_le_mul c1.2 hm
  have z2 : (wordsL l2 many).length * many ≤ 100 * 4 := Nat.mul_le_mul c2.2 hm
  have te1 := text_eq R1.2.1 many
  have te2 := text_eq R2.2.1 many
  rw [R1.1] at te1
  rw [R2.1] at te2
  have cl1 : (cw low many).length = (wordsL l1 many).length := by rw [w1, List.length_map]
  have cl2 : (cw high many).length = (wordsL l2 many).length := by rw [w2, List.length_map]
  -- firsts
  refine @EXR.then _ _ _ _ _ _ _ _ _ _ _ (CKM.setM (KI := KT K6) (CKM.oneM (its := (rngL 0 (many : Int) (wordsL l1 many).length).map .one) (ds := (rows1 low many).map rowD) (by rw [rng_len, List.length_map, rows1, List.length_map]; exact cl1) (by rw [List.length_map, rows1, List.length_map, cl1, sizeLine_eq]; omega)
    (EI.toKT (EI.rng (a := 0) (b := ((textL many (wordsL l1 many)).length : Int)) (c := (many : Int)) (n := (wordsL l1 many).length) hh (EV.range3 B6 (by omega) (PyProof.noPylong_small (by omega)) (EP.bi B6) EP.int (EP.mono (EP.lenY (EP.bi B6) (EP.cell (c := L + 3) (o := oT2) rfl (.inl kT6) hT2 hvt) (by simp only [List.size_toArray]; omega)) fun v h => by simpa using h) (EP.cell (c := L + 2) (o := oM2) rfl (.inl kM6) hM2 iM))
      (small_of (n := (wordsL l1 many).length) (by omega) (by omega) (by omega) (by omega) (by omega) (by omega) (by rw [t1len]; exact rangeSize_steps (by omega)) (by omega)) (by rw [t1len]; exact rangeSize_steps (by omega))) k85c .nil) (KT.dom k85c) ?_)) ?_
  · rintro C i it d g' k1' D o m' s' ⟨ps, rfl, hTb⟩ kD hi hd
    obtain ⟨hlt, rfl⟩ := rng_get hi
    rw [rows1, List.map_map, List.getElem?_map] at hd
    obtain ⟨wd, hwd, rfl⟩ := Option.map_eq_some_iff.mp hd
    obtain ⟨hwl, hwc⟩ := cw_len (List.mem_of_getElem? hwd)
    have Bx := B6.mono s'
    refine EA.mono EA.name ?_
    rintro g2 k2 m2 s2 ⟨rfl, rfl, vb, rb, rfl⟩
    have ivb : isI ((i * many : Nat) : Int) vb := by have := rb.isI; simpa using this
    have hle : (i + 1) * many ≤ (wordsL l1 many).length * many := Nat.mul_le_mul_right _ hlt
    rw [Nat.succ_mul] at hle
    refine ⟨rfl, (EM.laid (bs := wd.map (byteL l1)) (later := true) Bx hh (by omega) (EP.glob Bx) (EP.mono (EP.pieceY (EP.cell (c := L + 3) (o := oT2) rfl (.inl (lay_ne kT6 n3 kD)) hT2 hvt) (PT.at (EP.loc upd_self ivb)) (PT.at (EP.add (EP.loc upd_self ivb) (EP.cell (c := L + 2) (o := oM2) rfl (.inl (lay_ne kM6 n2 kD)) hM2 iM))) (by simp only [List.size_toArray]; rw [sizeLine_eq]; omega)) ?_) EP.tf (by rw [List.length_map, hwl]; exact hm) (lay_85 kD) hTb).mono ?_⟩
    · rintro v ⟨t, rfl⟩
      refine ⟨t, ?_⟩
      rw [picked_at _ (by omega), te1, flat_slice _ (fun x hx => by
        obtain ⟨y, hy, rfl⟩ := List.mem_map.mp hx
        rw [List.length_map]; exact (cw_len hy).1) i (wd.map (byteL l1)) (by rw [List.getElem?_map, hwd]; rfl)]
    · rintro g3 k3 v s3 ⟨⟨ps', rfl, hT'⟩, r⟩
      refine ⟨setk K6 85 (tabObj ps'), lay_turn kD, ⟨ps', rfl, hT'⟩, ?_⟩
      rw [List.length_map, hwl, row_eq R1 hwc] at r
      exact r
  rintro g7 K7 m7 s7 ⟨⟨gx, sgx, ps7, hK7, hT7⟩, vf, hvf, rfl⟩
  have hT7' := hT7.mono sgx
  have B7 := B6.mono s7
  have kM7 : K7 (L + 2) = some oM2 := by rw [hK7]; exact (setk_ne (Ne.symm n2)).trans kM6
  have kU7 : K7 (L + 4) = some oU2 := by rw [hK7]; exact (setk_ne (Ne.symm n4)).trans kU6
  have k85d : K7 85 = some (tabObj ps7) := by rw [hK7]; exact setk_self
  clear hK7
  have hvu' : isY tb.toList.toArray vu := by rw [Array.toArray_toList]; exact hvu
  have tbl : tb.toList.length = (wordsL l2 many).length * many := by rw [Array.length_toList]; exact htb
  -- seconds
  refine @EXR.then _ _ _ _ _ _ _ _ _ _ _ (CKM.setM (KI := KT K7) (CKM.oneM (its := (rngL 0 (many : Int) (wordsL l2 many).length).map .one) (ds := (rows2 high many).map rowD) (by rw [rng_len, List.length_map, rows2, List.length_map]; exact cl2) (by rw [List.length_map, rows2, List.length_map, cl2, sizeLine_eq]; omega)
    (EI.toKT (EI.rng (a := 0) (b := (tb.toList.length : Int)) (c := (many : Int)) (n := (wordsL l2 many).length) hh (EV.range3 B7 (by omega) (PyProof.noPylong_small (by omega)) (EP.bi B7) EP.int (EP.mono (EP.lenY (EP.bi B7) (EP.cell (c := L + 4) (o := oU2) rfl (.inl kU7) hU2 hvu') (by simp only [List.size_toArray]; omega)) fun v h => by rw [List.size_toArray] at h; exact h) (EP.cell (c := L + 2) (o := oM2) rfl (.inl kM7) hM2 iM))
      (small_of (n := (wordsL l2 many).length) (by omega) (by omega) (by omega) (by omega) (by omega) (by omega) (by rw [tbl]; exact rangeSize_steps (by omega)) (by omega)) (by rw [tbl]; exact rangeSize_steps (by omega))) k85d hT7') (KT.dom k85d) ?_)) ?_
  · rintro C i it d g' k1' D o m' s' ⟨ps, rfl, hTb⟩ kD hi hd
    obtain ⟨hlt, rfl⟩ := rng_get hi
    rw [rows2, List.map_map, List.getElem?_map] at hd
    obtain ⟨wd, hwd, rfl⟩ := Option.map_eq_some_iff.mp hd
    obtain ⟨hwl, hwc⟩ := cw_len (List.mem_of_getElem? hwd)
    have Bx := B7.mono s'
    refine EA.mono EA.name ?_
    rintro g2 k2 m2 s2 ⟨rfl, rfl, vb, rb, rfl⟩
    have ivb : isI ((i * many : Nat) : Int) vb := by have := rb.isI; simpa using this
    have hle : (i + 1) * many ≤ (wordsL l2 many).length * many := Nat.mul_le_mul_right _ hlt
    rw [Nat.succ_mul] at hle
    obtain ⟨KK, hKK⟩ : ∃ KK, KK = setk (setk K7 85 (tabObj ps)) D o := ⟨_, rfl⟩
    have kMx : KK (L + 2) = some oM2 := by rw [hKK]; exact lay_ne kM7 n2 kD
    have kUx : KK (L + 4) = some oU2 := by rw [hKK]; exact lay_ne kU7 n4 kD
    have k85x : KK 85 = some (tabObj ps) := by rw [hKK]; exact lay_85 kD
    have back : ∀ t', setk KK 85 t' = setk (setk K7 85 t') D o := fun t' => by rw [hKK]; exact lay_turn kD
    rw [← hKK]
    refine ⟨rfl, (CKM.em (CKM.oneM (KI := KT KK) (its := (natL (rowOf (ltOf false (kc wd.reverse)) many)).map ik) (ds := natL ((rowOf (ltOf false (kc wd.reverse)) many).map fun p => many - 1 - p)) (by simp [natL]) (by rw [natL, List.length_map, List.length_map, rowOf_len, sizeLine_eq]; omega) (EIM.list hh ((EM.laid (bs := wd.reverse.map (byteL l2)) (later := false) Bx hh (by omega) (EP.glob Bx)
      (EP.mono (EP.pieceY (EP.cell (c := L + 4) (o := oU2) rfl (.inl kUx) hU2 hvu') (PT.at (EP.loc upd_self ivb)) (PT.at (EP.add (EP.loc upd_self ivb) (EP.cell (c := L + 2) (o := oM2) rfl (.inl kMx) hM2 iM))) (by simp only [List.size_toArray]; rw [sizeLine_eq]; omega)) ?_) EP.tf (by rw [List.length_map, List.length_reverse, hwl]; exact hm) k85x hTb).mono ?_) (KT.dom k85x)) (KT.dom k85x) ?_)).mono ?_⟩
    · rintro v ⟨t, rfl⟩
      refine ⟨t, ?_⟩
      rw [picked_at _ (by omega), turned_slice hTu htb t2len hlt, te2, flat_slice _ (fun x hx => by
        obtain ⟨y, hy, rfl⟩ := List.mem_map.mp hx
        rw [List.length_map]; exact (cw_len hy).1) i (wd.map (byteL l2)) (by rw [List.getElem?_map, hwd]; rfl), List.map_reverse]
    · rintro g3 k3 v s3 ⟨hK, r⟩
      rw [List.length_map, List.length_reverse, hwl, row_eq R2 (fun c hc => hwc c (List.mem_reverse.mp hc))] at r
      exact ⟨hK, r⟩
    · rintro C2 j it2 d2 g3 k3 D2 o2 m3 s3 ⟨ps2, rfl, hTc⟩ kD2 hj hd2
      rw [natL, List.map_map, List.getElem?_map] at hj
      rw [natL, List.map_map, List.getElem?_map] at hd2
      obtain ⟨p, hp, rfl⟩ := Option.map_eq_some_iff.mp hj
      rw [hp] at hd2
      cases hd2
      have hpm := rowOf_mem (List.mem_of_getElem? hp)
      refine EA.mono EA.name ?_
      rintro g4 k4 m4 s4 ⟨rfl, rfl, vp, rp, rfl⟩
      refine ⟨rfl, (EV.toM (EV.I (i := ((many - 1 - p : Nat) : Int)) (EP.mono (EP.sub (EP.sub (EP.cell (c := L + 2) (o := oM2) rfl (.inl (lay_ne kMx n2 kD2)) hM2 iM) EP.int) (EP.loc upd_self rp.isI)) fun v h => ?_))).mono fun g5 k5 v s5 ⟨e, r⟩ => ⟨setk KK 85 (tabObj ps2), e, ⟨ps2, rfl, hTc.mono s5⟩, r⟩⟩
      have e : (many : Int) - 1 - (p : Int) = ((many - 1 - p : Nat) : Int) := by omega
      rwa [e] at h
    · rintro g3 k3 v s3 ⟨⟨gy, sgy, ps', rfl, hT'⟩, r⟩
      exact ⟨setk K7 85 (tabObj ps'), back _, ⟨ps', rfl, hT'.mono sgy⟩, r⟩
  rintro g8 K8 m8 s8 ⟨⟨gz, sgz, ps8, hK8, hT8⟩, vsc, hvsc, hm8⟩
  have B8 := B7.mono s8
  have kM8 : K8 (L + 2) = some oM2 := by rw [hK8]; exact (setk_ne (Ne.symm n2)).trans kM7
  have k85e : K8 85 = some (tabObj ps8) := by rw [hK8]; exact setk_self
  clear hK8
  have n_f : m8 "firsts" = some vf := by rw [hm8]; rfl
  have n_s : m8 "seconds" = some vsc := by rw [hm8]; exact upd_self
  have n_w : m8 "words" = some vw := by rw [hm8]; rfl
  have n_o : m8 "others" = some vo := by rw [hm8]; rfl
  have n_d : m8 "draws" = some vd := by rw [hm8]; exact ((upd_ne (by decide)).trans ((upd_ne (by decide)).trans ((upd_ne (by decide)).trans (upd_ne (by decide))))).trans md
  have n_l : m8 "low" = some vlo := by rw [hm8]; exact ((upd_ne (by decide)).trans ((upd_ne (by decide)).trans ((upd_ne (by decide)).trans (upd_ne (by decide))))).trans mlo
  have n_h : m8 "high" = some vhi := by rw [hm8]; exact ((upd_ne (by decide)).trans ((upd_ne (by decide)).trans ((upd_ne (by decide)).trans (upd_ne (by decide))))).trans mhi
  clear hm8
  have hvw8 := (((hvw4.mono s5).mono s6).mono s7).mono s8
  have hvo8 := (((hvo.mono s5).mono s6).mono s7).mono s8
  have hvd8 := (((hvd4.mono s5).mono s6).mono s7).mono s8
  have hvf8 := hvf.mono s8
  have rl1 : (rows1 low many).length = (wordsL l1 many).length := by rw [rows1, List.length_map]; exact cl1
  have rl2 : (rows2 high many).length = (wordsL l2 many).length := by rw [rows2, List.length_map]; exact cl2
  have ht1 : ∀ p ∈ wordsL l1 many, 0 ≤ p.2 ∧ p.2 ≤ 100 := by rw [w1]; exact hts_le H.low3 hm
  have ht2 : ∀ p ∈ wordsL l2 many, 0 ≤ p.2 ∧ p.2 ≤ 100 := by rw [w2]; exact hts_le H.high3 hm
  have ta1 := tally_eq 16 l1 (rows1 low many) many
  have ta2 := tally_eq (16 ^ low) l2 (rows2 high many) many
  rw [R1.1, H.first] at ta1
  rw [R2.1, H.second] at ta2
  have h16 : (Builtin.Int.intBits 16 : Int) = 5 := by rfl
  have low3 := H.low3
  have high3 := H.high3
  -- both
  refine @EXR.then _ _ _ _ _ _ _ _ _ _ _ (E1.set (R := fun g' v => Rp prog w g' v (.dct (figD b)) ∧ v ≠ .ref sysModules) (EV.call (fv := .ref 100) (RL := fun g' l => ∃ v1 v2, l = [v1, v2] ∧ (Rp prog w g' v1 (.dct (figD f)) ∧ v1 ≠ .ref sysModules) ∧ (Rp prog w g' v2 (.dct (figD s)) ∧ v2 ≠ .ref sysModules)) (EP.glob B8) ⟨_, _, B8.at rfl, rfl⟩
    (EL.cons (R₁ := fun g' v => Rp prog w g' v (.dct (figD f)) ∧ v ≠ .ref sysModules) (EV.call (fv := .ref 95) (RL := fun _ l => ∃ v1 v2 v3, l = [v1, v2, v3] ∧ v1 = vf ∧ v2 = vw ∧ isI 16 v3) (EP.glob B8) ⟨_, _, B8.at rfl, rfl⟩
      (EL.three (EP.loc (R := fun v => v = vf) n_f rfl) (EP.loc (R := fun v => v = vw) n_w rfl) EP.int) fun g' l s' ⟨v1, v2, v3, e, e1, e2, i3⟩ => by
        rw [e, e1, e2, ← ta1]
        exact FS.toCV (tally_ok (B8.mono s') rl1 (by omega) (rows1_ok hm) ht1 (by decide) (hvf8.mono s') (hvw8.mono s') i3) hh (by omega)) fun g1' v1 s1' r1 =>
      EL.cons (R₁ := fun g' v => Rp prog w g' v (.dct (figD s)) ∧ v ≠ .ref sysModules) (EV.call (fv := .ref 95) (RL := fun _ l => ∃ v1 v2 v3, l = [v1, v2, v3] ∧ v1 = vsc ∧ v2 = vo ∧ isI (16 ^ low) v3) (EP.glob (B8.mono s1')) ⟨_, _, (B8.mono s1').at rfl, rfl⟩
        (EL.three (EP.loc (R := fun v => v = vsc) n_s rfl) (EP.loc (R := fun v => v = vo) n_o rfl) (EP.mono (EP.pow EP.int (EP.loc n_l ilo) (by omega) (by rw [h16]; omega)) fun v h => by rwa [Int.toNat_natCast] at h)) fun g' l s' ⟨v1, v2, v3, e, e1, e2, i3⟩ => by
          rw [e, e1, e2, ← ta2]
          exact FS.toCV (tally_ok ((B8.mono s1').mono s') rl2 (by omega) (rows2_ok hm) ht2 H.bits ((hvsc.mono s1').mono s') ((hvo8.mono s1').mono s') i3) hh (by omega)) fun g2' v2 s2' r2 => EL.nil ⟨v1, v2, rfl, ⟨r1.1.mono s2', r1.2⟩, r2⟩) fun g' l s' ⟨v1, v2, e, q1, q2⟩ => by
      rw [e, ← H.both]
      exact FS.toCV (both_ok (B8.mono s') (by have := H.lenF; rw [figD, List.length_map]; omega) (by have := H.lenS; omega) H.fineF H.fineS q1 q2) hh (by omega))) ?_
  rintro g9 K8 m9 s9 ⟨rfl, vb, ⟨hvb, hvbn⟩, rfl⟩
  have B9 := B8.mono s9
  -- orders
  refine @EXR.then _ _ _ _ _ _ _ _ _ _ _ (E1.set (R := fun g' v => Rp prog w g' v (ordersD many)) (EV.call (fv := .ref 105) (RL := fun _ l => ∃ v, l = [v] ∧ isI (many : Int) v) (EP.glob B9) ⟨_, _, B9.at rfl, rfl⟩ (EL.one (EP.cell (c := L + 2) (o := oM2) rfl (.inl kM8) hM2 iM)) fun g' l s' ⟨v, e, i⟩ => by
      rw [e]
      exact FS.toCV (orders_ok (B9.mono s') hm i) hh (by omega))) ?_
  rintro g10 K8 m10 s10 ⟨rfl, vos, hvos', hm10⟩
  have hvos : Rp prog w g10 vos (.lst ((ordersL many).map .str)) := hvos'
  have B10 := B9.mono s10
  have n_b : m10 "both" = some vb := by rw [hm10]; exact (upd_ne (by decide)).trans upd_self
  have n_os : m10 "orders" = some vos := by rw [hm10]; exact upd_self
  have n_d2 : m10 "draws" = some vd := by rw [hm10]; exact ((upd_ne (by decide)).trans (upd_ne (by decide))).trans n_d
  have n_l2 : m10 "low" = some vlo := by rw [hm10]; exact ((upd_ne (by decide)).trans (upd_ne (by decide))).trans n_l
  have n_h2 : m10 "high" = some vhi := by rw [hm10]; exact ((upd_ne (by decide)).trans (upd_ne (by decide))).trans n_h
  clear hm10
  have hvb10 := hvb.mono s10
  have hvd10 := (hvd8.mono s9).mono s10
  have lowb : Builtin.Int.intBits ((low : Nat) : Int) ≤ 64 := by
    have : low = 2 ∨ low = 3 := by have := H.low1; omega
    rcases this with e | e <;> rw [e] <;> decide
  have size4 := H.size
  -- the loop
  refine EXR.cons (E1R.of (E1.for (ds := ((ordersL many).map .str).map ik) (fun i g' k' m' => k' = K8 ∧ m' "both" = some vb ∧ m' "orders" = some vos ∧ m' "draws" = some vd ∧ m' "low" = some vlo ∧ m' "high" = some vhi) (fun _ _ _ _ => False) (EI.list hh (EV.R (EP.loc n_os hvos))) (fun g' s' => ⟨rfl, n_b, n_os, n_d2, n_l2, n_h2⟩) ?_)) ?_ ?_
  · rintro i it g' k' m' s' hi ⟨rfl, q1, q2, q3, q4, q5⟩
    rw [List.getElem?_map, List.getElem?_map] at hi
    obtain ⟨d0, hd0, rfl⟩ := Option.map_eq_some_iff.mp hi
    obtain ⟨o, ho, rfl⟩ := Option.map_eq_some_iff.mp hd0
    have hmem := List.mem_of_getElem? ho
    have hol := H.ordL o hmem
    have Bx := B10.mono s'
    refine EA.mono EA.name ?_
    rintro g2 k2 m2' s2' ⟨rfl, rfl, vor, ror, rfl⟩
    have ior := ror.isS
    refine EX.then (R₁ := fun g' k'' m' => k'' = k2 ∧ m' "both" = some vb ∧ m' "orders" = some vos ∧ m' "draws" = some vd ∧ m' "low" = some vlo ∧ m' "high" = some vhi) (E1.if (c := (getI (figD b) o 0 != gaussI o ((low * high : Nat) : Int))) ?_ (fun h => ?_) fun _ => EX.nil ⟨rfl, rfl, (upd_ne (by decide)).trans q1, (upd_ne (by decide)).trans q2, (upd_ne (by decide)).trans q3, (upd_ne (by decide)).trans q4, (upd_ne (by decide)).trans q5⟩) fun g3 k3 m3 s3 r => EX.nil (.inl ⟨rfl, r⟩)
    · have hvbx := hvb10.mono s'
      cases hvbx with
      | @dct a ob kvs _ e hk hiv =>
        have hS : (a == sysModules) = false := by
          cases q : a == sysModules with
          | false => rfl
          | true => exact absurd (congrArg Value.ref (eq_of_beq q)) hvbn
        refine ET.cmp (EP.dget (a := a) (ob := ob) (ds := figD b) (x := o) (dflt := 0) (EP.loc ((upd_ne (by decide)).trans q1) rfl) (.inr e) ⟨kvs, hk, hiv⟩ hS (EP.loc upd_self ior) EP.int) (EP.call (fv := .ref 117) (RL := fun _ l => ∃ v1 v2, l = [v1, v2] ∧ isS o v1 ∧ isI ((low * high : Nat) : Int) v2) (R := isI (gaussI o ((low * high : Nat) : Int))) (EP.glob Bx) ⟨_, _, Bx.at rfl, rfl⟩ (EL.two (EP.loc upd_self ior) (EP.mono (EP.mul (EP.loc ((upd_ne (by decide)).trans q4) ilo) (EP.loc ((upd_ne (by decide)).trans q5) ihi) (.of_left lowb)) fun v h => by rw [Int.natCast_mul]; exact h)) fun g'' l s'' ⟨v1, v2, e, i1, i2⟩ => by
          rw [e]
          exact FS.toCV (gauss_ok (Bx.mono s'') (by omega) (by omega) (by omega) (by omega) i1 i2) hh (by omega)) fun _ _ a b => CO.ne a b
    · rw [H.gauss o hmem] at h
      simp at h
  rotate_left
  · rintro g' k' m' fl hfl s' r
    rcases r with ⟨e, _⟩ | ⟨_, _, e⟩
    · exact absurd e hfl
    · exact e.elim
  rintro g11 k11 m11 s11 r
  obtain ⟨rfl, q1, q2, q3, q4, q5⟩ : k11 = K8 ∧ m11 "both" = some vb ∧ m11 "orders" = some vos ∧ m11 "draws" = some vd ∧ m11 "low" = some vlo ∧ m11 "high" = some vhi := by
    rcases r with ⟨_, r⟩ | ⟨_, e, _⟩
    · exact r
    · cases e
  clear r
  have B11 := B10.mono s11
  have hvb11 := hvb10.mono s11
  have hvos11 := hvos.mono s11
  have hvd11 := hvd10.mono s11
  have hN := H.ordN
  have hp0 : 0 ≤ ((drawI ns 0).fdiv 3).fmod ((ordersL many).length : Int) := Int.fmod_nonneg_of_pos _ (by omega)
  have hp1 : ((drawI ns 0).fdiv 3).fmod ((ordersL many).length : Int) < (ordersL many).length := Int.fmod_lt_of_pos _ (by omega)
  obtain ⟨o, ho⟩ : ∃ o, (ordersL many)[(((drawI ns 0).fdiv 3).fmod ((ordersL many).length : Int)).toNat]? = some o := ⟨_, List.getElem?_eq_getElem (by omega)⟩
  have hmem := List.mem_of_getElem? ho
  have hol := H.ordL o hmem
  obtain ⟨val, hv⟩ : ∃ v, v = getI (figD b) o 0 := ⟨_, rfl⟩
  have hch := H.chosen o hmem
  rw [← hv] at hch
  obtain ⟨v0, v60, csz0, csz60, crev, cshown, ctail0, ctail16⟩ := hch
  have hthere := H.there o hmem
  -- chosen
  refine @EXR.then _ _ _ _ _ _ _ _ _ _ _ (E1.set (R := fun _ v => isS o v) (EP.toV (EP.mono (EP.item (ds := (ordersL many).map .str) (d := .str o) (n := ((drawI ns 0).fdiv 3).fmod ((ordersL many).length : Int)) (EP.loc q2 hvos11) (EP.fmod (EP.fdiv (EP.mono (EP.item (n := 0) (d := .int (drawI ns 0)) (EP.loc q3 hvd11) EP.int (by decide) (by decide) rfl) fun v h => h.isI) EP.int (by decide) (PyProof.noPylong_small (by decide))) (EP.mono (EP.lenL (ds := (ordersL many).map .str) (EP.bi B11) (EP.loc q2 hvos11) (by rw [List.length_map]; omega)) fun v h => by rwa [List.length_map] at h) (by omega)) hp0 (by omega) (by rw [List.getElem?_map, ho]; rfl)) fun v h => h.isS))) ?_
  rintro g12 k12 m12 s12 ⟨rfl, vch, hvch, rfl⟩
  have B12 := B11.mono s12
  -- shown
  refine @EXR.then _ _ _ _ _ _ _ _ _ _ _ (E1.set (R := fun _ v => isY (shownOf val).toArray v) (EV.call (fv := .ref 57) (RL := fun _ l => ∃ v, l = [v] ∧ isI val v) (EP.glob B12) ⟨_, _, B12.at rfl, rfl⟩ (EL.one (EP.mono (EP.ditem (n := 0) (ds := figD b) (x := o) (EP.loc ((upd_ne (by decide)).trans q1) (hvb11.mono s12)) (EP.loc upd_self hvch) hthere) fun v h => by rw [hv]; exact h)) fun g' l s' ⟨v, e, i⟩ => by
      rw [e]
      have ev : val = ((val.toNat : Nat) : Int) := by omega
      exact FS.toCV (ap_ok (n := val.toNat) (f := 60) (B12.mono s') (by decide) (by
        have : ((val.toNat : Nat) : Int) < ((16 ^ 60 : Nat) : Int) := by rw [← ev]; exact v60
        exact_mod_cast this) (by rw [← ev]; exact i)) hh (by omega))) ?_
  rintro g13 k13 m13 s13 ⟨rfl, vsh, hvsh, rfl⟩
  have B13 := B12.mono s13
  -- tail
  refine @EXR.then _ _ _ _ _ _ _ _ _ _ _ (E1.set (R := fun _ v => isI (fallsL o).sum v) (EP.toV (EP.sum hh (EP.bi B13) (EV.call (fv := .ref 110) (RL := fun _ l => ∃ v, l = [v] ∧ isS o v) (EP.glob B13) ⟨_, _, B13.at rfl, rfl⟩ (EL.one (EP.loc ((upd_ne (by decide)).trans upd_self) hvch)) fun g' l s' ⟨v, e, i⟩ => by
      rw [e]
      exact FS.toCV (falls_ok (B13.mono s') (by omega) (by omega) i) hh (by omega))))) ?_
  rintro g14 k14 m14 s14 ⟨rfl, vta, hvta, rfl⟩
  have B14 := B13.mono s14
  have shl : (shownOf val).length ≤ 60 := apF_len 60 _
  -- core
  refine @EXR.then _ _ _ _ _ _ _ _ _ _ _ (E1.set (R := fun _ v => isY (coreOf o val) v) (EP.toV (EP.mono (EP.pieceY (EP.loc ((upd_ne (by decide)).trans upd_self) hvsh) PT.no (PT.at (EP.sub (EP.lenY (EP.bi B14) (EP.loc ((upd_ne (by decide)).trans upd_self) hvsh) (by simp only [List.size_toArray]; omega)) (EP.loc upd_self hvta))) (by simp only [List.size_toArray]; rw [sizeLine_eq]; omega)) fun v h => by
      simp only [List.size_toArray] at h
      exact h))) ?_
  rintro g15 k15 m15 s15 ⟨rfl, vco, hvco, rfl⟩
  have B15 := B14.mono s15
  have hvco' : isY (coreOf o val).toList.toArray vco := by rw [Array.toArray_toList]; exact hvco
  have clen : (coreOf o val).toList.length = 1 * (coreOf o val).size := by rw [Array.length_toList, Nat.one_mul]
  -- the answer
  refine EXR.ret (R₁ := fun _ k' v => k' = k15 ∧ v = .bool true) (EVR.cmpK (Rl := isY (shownOf val).toArray) (Rr := fun _ k' v => k' = k15 ∧ isY (coreOf o val ++ (List.replicate (fallsL o).sum.toNat (65 : UInt8)).toArray) v) (EP.loc ((upd_ne (by decide)).trans ((upd_ne (by decide)).trans upd_self)) hvsh)
    (EVR.binL (Rl := fun _ k' v => k' = k15 ∧ isY (coreOf o val) v) (Rr := isY (List.replicate (fallsL o).sum.toNat (65 : UInt8)).toArray) (EVR.call (fv := .ref 64) (RL := fun _ l => ∃ v1 v2, l = [v1, v2] ∧ isY (coreOf o val).toList.toArray v1 ∧ isI ((coreOf o val).size : Int) v2) (EP.glob B15) ⟨_, _, B15.at rfl, rfl⟩ (EL.two (EP.loc upd_self hvco') (EP.lenY (EP.bi B15) (EP.loc upd_self hvco) (by omega))) fun g' l s' ⟨v1, v2, e, i1, i2⟩ => by
        rw [e]
        intro st Q S hq
        refine FR.toCMR (byteswap_ok (cnt := 1) (B15.mono s') csz0 (by omega) clen (by rw [clen]; omega) i1 i2) hh (by omega) (fun _ _ e => nomatch e) st Q S fun g2 k2 v2 h2 tk2 X r => ?_
        obtain ⟨k3, rfl, bb, hbb, hbs, hbT⟩ := r
        refine hq g2 _ v2 h2 tk2 X ⟨over_nok, ?_⟩
        have hsl := turned_slice hbT hbs clen (i := 0) (by decide)
        rw [Nat.zero_mul, List.drop_zero, List.drop_zero, List.take_of_length_le (by rw [Array.length_toList, hbs]; omega), List.take_of_length_le (by rw [clen]; omega), crev] at hsl
        have : bb = coreOf o val := Array.toList_inj.mp hsl
        rw [← this]; exact hbb)
      (fun g' k' v s' r => (EP.mono (EP.mulY (b := [65]) EP.bytes (EP.loc ((upd_ne (by decide)).trans upd_self) hvta) (by decide) (by omega) (by omega) (by decide)) fun v h => by rw [flat_one] at h; exact h)) fun g' k' a b ⟨ek, ra⟩ rb s' Q hq => by
        obtain ⟨ta, rfl⟩ := ra
        obtain ⟨tb', rfl⟩ := rb
        exact KBy.add_bytes (by simp only [List.size_toArray, List.length_replicate]; omega) (fun _ _ => hq _ _ ⟨ek, _, rfl⟩)) fun g' k' a b ra ⟨ek, rb⟩ => ⟨_, CO.eqY ra rb, ek, by
          have : ((shownOf val).toArray.toList == (coreOf o val ++ (List.replicate (fallsL o).sum.toNat (65 : UInt8)).toArray).toList) = true := by
            rw [beq_iff_eq, Array.toList_append, cshown]
          rw [this]⟩) ?_
  rintro g16 k16 v16 s16 ⟨rfl, rfl⟩ dis
  exact ⟨rfl, ps8, outK_at k85e⟩
end Mine
end
/-! H2 -/
section
open PySem PySem.W PyProof.Rows PySem.Calls
open Sem (wp)
namespace Mine
theorem has_bool (R : WRecords) : WShape.has R (.bool true) .bool = true := by
  rfl
theorem holds_true (R : WRecords) (e : WCtx) (h : e.res = some (.bool true)) : WTm.holds R (.eq .res (.lit (.bool true))) e = true := by
  have hs : WTm.value R (.eq .res (.lit (.bool true))) e = some (.bool true) := by
    simp [WTm.value, h, same_self]
  rw [WTm.holds, hs]
theorem lay_dis {h₁ : Heap} (hT : TabsAt [(89, 85)] h₁) : (ghostOf h₁ [(89, 85)]).get? 85 = none := hideAll_none _ (.head _)
theorem table_oldK {h₁ h' : Heap} {g' : Bs} {ps : Array Value} (hT : TabsAt [(89, 85)] h₁) (X : ExE (fun b => (ghostOf h₁ [(89, 85)]).get? b) (one1 85 (tabObj #[])) h₁ g' (one1 85 (tabObj ps)) h') : OldK h₁ h' := by
  have h85 : h'.get? 85 = some (tabObj ps) := X.lek _ _ setk_self
  obtain ⟨hC, hP⟩ := hT (89, 85) (.head _)
  have other : ∀ b o, b ≠ 85 → h₁.get? b = some o → h'.get? b = some o := fun b o hb e => X.pres b o e ((setk_ne hb).trans rfl)
  refine ⟨fun b o e => ?_, fun b o e => ?_⟩
  · by_cases hb : b = 85
    · subst hb
      have e2 : o = tabObj #[] := Option.some.inj (e.symm.trans hP)
      subst e2
      obtain ⟨oc, vs, file, tf, flags, tg, inF, text, tt, c1, c2, c3, c4, _⟩ := hC
      exact .inr (.inl ⟨⟨89, oc, vs, c1, c2, c3, c4⟩, rfl, #[], ps, rfl, by rw [h85]; simp⟩)
    · exact .inl (other b o hb e)
  · by_cases hb : b = 85
    · subst hb; exact ⟨_, h85⟩
    · exact ⟨o, other b o hb e⟩
set_option maxHeartbeats 4000000 in
theorem fin : Challenge.rw_wn0057_01.Holds := hd (by
  intro w s₀ s₁ mg mb G Y fa o pm cd doc dV kV ho hd' hcd hD hmg hg args vals as hpre hlay hrd hwl hlo
  have KX := km_in_of Y
  have KT := km_tabs_of Y
  have T := G.T
  have hfa : fa = 122 := by
    have e : mg "law" = some (.ref 122) := mg_of KX T.g (by rfl)
    have e2 : mg "law" = some (.ref fa) := hmg
    rw [e] at e2
    cases e2; rfl
  subst hfa
  clear ho hd' hcd hD hmg
  wrow_args hpre hlay hrd hwl hlo
  rename_i ns hs hlay0 hL1 hr1 hl2 w4 w3 a vs w0 hL ra w1 r0 hI hr hc1 hc2
  have hns : ns.length ≤ 63 := by omega
  have hex : s₁.heap.get? a = some (lstO vs 0) := by
    obtain ⟨o', e1, e2, n, e3⟩ := hL
    cases w1 with
    | @list _ vs' _ e _ =>
      rw [e] at e1
      cases e1
      cases e3
      exact e
  have hT : TabsAt [(89, 85)] s₁.heap := fun q hq => by
    rw [List.mem_singleton.mp hq]
    exact ⟨codeHd_of_K KX (by rfl), KT 85 (.head _)⟩
  have B : Base w (fun b => (ghostOf s₁.heap [(89, 85)]).get? b) := ⟨_, _, _, _, mg, mb, fun b o e => e, ghost_K hT KX (by rfl), ghost_top hT T⟩
  have hscript : Rp Challenge.rw_wn0057_01.row.prog w (fun b => (ghostOf s₁.heap [(89, 85)]).get? b) (.ref a) (.lst (ns.map .int)) := .lst (ghost_get hT hex (by intro e; cases e)) (ints_rp hI)
  refine wpR_mono (law_ok B hscript hns callerA s₁ _ rfl (by decide) (fun b o e => of_hideAll _ e) (fun b o e => ?_) (fun b o e => ?_) fun g' k' v h' tk X r => ?_) (fun _ _ x => x) fun _ _ x => x.elim
  · by_cases hb : b = 85
    · subst hb; rw [show one1 85 (tabObj #[]) 85 = some (tabObj #[]) from setk_self] at e; cases e; exact KT 85 (.head _)
    · rw [show one1 85 (tabObj #[]) b = none from setk_ne hb] at e; cases e
  · exact setk_ne (fun q => by
      have e' : (ghostOf s₁.heap [(89, 85)]).get? b = some o := e
      rw [q, lay_dis hT] at e'; cases e')
  · obtain ⟨rfl, ps, rfl⟩ := r
    have post : Challenge.rw_wn0057_01.row.claim.post [ofPy (.list (ns.map .int))] (.bool true) [ofPy (.list (ns.map .int))] = true := by
      exact Bool.and_eq_true_iff.mpr ⟨has_bool Challenge.rw_wn0057_01.row.records, holds_true _ _ rfl⟩
    refine ⟨.inl ⟨.bool true, .bool true, [], rfl, fun _ => rfl, .bool true, post, fun _ => ⟨List.nodup_nil, fun _ h => nomatch h⟩⟩, table_oldK hT X, rfl, ?_⟩
    exact AllBare.of_eq hg)
end Mine
end
open PySem PySem.W PyProof.Rows
set_option maxHeartbeats 8000000 in
theorem PySem.Challenge.cw_wn0057_01_holds : PySem.Challenge.rw_wn0057_01.Holds := by
  exact Mine.fin
