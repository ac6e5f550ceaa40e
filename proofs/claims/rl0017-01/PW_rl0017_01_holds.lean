import PyProof.Rows.All
import Wide.All
import OpenK.AllK
import Wide.FinOn
import Lean
import PySem.Challenge.RW_rl0017_01
set_option Elab.async false
section
open PySem PySem.W PyProof.Rows
open PySem.Sem (wp)
set_option Elab.async false
set_option maxRecDepth 100000
set_option maxHeartbeats 8000000
namespace Mine

/-- a frame that `exported` reads as a holder, beyond the guards -/
def isDec : Code → Bool
  | .builtin id _ => Builtin.Bytes.decodersThatHold.contains id
  | _ => false
def Good (Γ : Ctx) : Prop := isDec Γ.code = false ∧ ∀ x ∈ Γ.below, isDec x.1 = false
theorem Good.enter {Γ : Ctx} (g : Good Γ) {c : Code} (hc : isDec c = false) (h : Option Value) (p : Pos) : Good (Γ.enter c h p) :=
  ⟨hc, fun x hx => by
    rcases List.mem_cons.mp (show x ∈ (Γ.code, p) :: Γ.below from hx) with rfl | hx
    · exact g.1
    · exact g.2 x hx⟩
theorem Good.goto {Γ : Ctx} (g : Good Γ) {c : Code} (hc : isDec c = false) : Good (Γ.goto c) := ⟨hc, g.2⟩

def wpR {α : Type} (M : Model) (A : Around) (t : Sem α) (Q : α → Shared → Prop) (E : Value → Shared → Prop) (s : Shared) : Prop :=
  ∀ Γ p, Γ.In A → Good Γ → wp M Γ t (fun a _ s' => Q a s') (fun e _ s' => E e s') p s
def codeR (M : Model) (A : Around) (c : Code) (R : Result → Shared → Prop) (s : Shared) : Prop :=
  ∀ Γ p, Γ.code = c → Γ.Below A → Good Γ → wpCode M Γ R p s

section
variable {α β : Type} {M : Model} {A : Around} {E : Value → Shared → Prop} {s : Shared}
theorem wpR_of {t : Sem α} {Q : α → Shared → Prop} (h : wpAny M A t Q E s) : wpR M A t Q E s := fun Γ p hΓ _ => h Γ p hΓ
theorem codeR_of {c : Code} {R : Result → Shared → Prop} (h : codeAny M A c R s) : codeR M A c R s := fun Γ p hc hΓ _ => h Γ p hc hΓ
theorem wpR_pure {a : α} {Q : α → Shared → Prop} (h : Q a s) : wpR M A (pure a) Q E s := fun _ _ _ _ => h
theorem wpR_mono {t : Sem α} {Q Q' : α → Shared → Prop} {E' : Value → Shared → Prop} (h : wpR M A t Q E s)
    (hQ : ∀ a s, Q a s → Q' a s) (hE : ∀ e s, E e s → E' e s) : wpR M A t Q' E' s :=
  fun Γ p hΓ g => Sem.wp_mono M Γ t (fun a _ s => hQ a s) (fun e _ s => hE e s) p s (h Γ p hΓ g)
theorem wpR_bind {m : Sem α} {f : α → Sem β} {Q : β → Shared → Prop} (h : wpR M A m (fun a s' => wpR M A (f a) Q E s') E s) :
    wpR M A (m >>= f) Q E s := fun Γ p hΓ g => by
  rw [Sem.wp_bind']
  exact Sem.wp_mono M Γ m (fun a p' s' h' => h' Γ p' hΓ g) (fun _ _ _ h' => h') p s (h Γ p hΓ g)
theorem wpR_any_bind {m : Sem α} {f : α → Sem β} {Q : β → Shared → Prop} (h : wpAny M A m (fun a s' => wpR M A (f a) Q E s') E s) :
    wpR M A (m >>= f) Q E s := wpR_bind (wpR_of h)
theorem wpR_holding {vs : List Value} {m : Sem α} {Q : α → Shared → Prop} (h : wpR M A m Q E s) : wpR M A (holding vs m) Q E s :=
  fun Γ p hΓ g => by rw [Sem.wp_holding]; exact h Γ p hΓ g
theorem codeR_mono {c : Code} {R R' : Result → Shared → Prop} (h : codeR M A c R s) (hR : ∀ r s, R r s → R' r s) : codeR M A c R' s :=
  fun Γ p hc hΓ g => by
    obtain ⟨r, s', x, y⟩ := h Γ p hc hΓ g
    exact ⟨r, s', x, hR r s' y⟩
theorem codeR_of_tree {c : Code} {R : Result → Shared → Prop}
    (h : wpR M (A.under c) (M.den c) (fun fin s' => match fin with | .done f => R (.ok f) s' | .again c' => c'.quiet = true ∧ isDec c' = false ∧ codeR M A c' R s')
      (fun e s' => R (.error e) s') s) : codeR M A c R s := fun Γ p hc hΓ g => by
  rw [wpCode_iff_wp, hc]
  refine Sem.wp_mono M Γ _ (fun fin p' s' h' => ?_) (fun _ _ _ h' => h') p s (h Γ p (hc ▸ hΓ.in) g)
  cases fin with
  | done f => exact h'
  | again c' => exact ⟨h'.1, h'.2.2 (Γ.goto c') p' rfl (hΓ.goto c') (g.goto h'.2.1)⟩
end

/-- what `exported` asks, where no guard and no decoder stands -/
theorem wpR_exported {M : Model} {A : Around} {E : Value → Shared → Prop} {s : Shared} {v : Value} {Q : Bool → Shared → Prop} (hg : A.guards = some []) (h : Q false s) :
    wpR M A (Builtin.Bytes.exported v) Q E s := fun Γ p hΓ g => by
  unfold Builtin.Bytes.exported
  rw [Sem.wp_bind']
  show wp M Γ (stack) _ _ p s
  have hgs := hΓ.2.2.2.1 [] hg
  have key : ∀ x ∈ (Γ.code, p) :: Γ.below, isDec x.1 = false ∧ x.1.isGuard = false := by
    intro x hx
    refine ⟨?_, ?_⟩
    · rcases List.mem_cons.mp hx with rfl | hx
      · exact g.1
      · exact g.2 x hx
    · cases hb : x.1.isGuard with
      | false => rfl
      | true =>
        have hmem : x.1 ∈ guardsOf ((Γ.code, p) :: Γ.below) := List.mem_filter.mpr ⟨List.mem_map.mpr ⟨x, hx, rfl⟩, hb⟩
        rw [guardsOf_cons, hgs] at hmem
        cases hmem
  have hany : ∀ f : Code × Pos → Bool, (∀ x, isDec x.1 = false → x.1.isGuard = false → f x = false) → ((Γ.code, p) :: Γ.below).any f = false := by
    intro f hf
    exact List.any_eq_false.mpr fun x hx => by rw [hf x (key x hx).1 (key x hx).2]; exact Bool.false_ne_true
  unfold stack
  rw [Sem.wp_stack]
  show Q (List.any ((Γ.code, p) :: Γ.below) _) s
  rw [hany]
  · exact h
  · intro x h1 h2
    obtain ⟨c, q⟩ := x
    cases c with
    | builtin id args =>
      obtain ⟨pos, kw⟩ := args
      split
      all_goals (try rfl)
      all_goals (first | (exfalso; revert h2; simp_all [Code.isGuard, guardIds]; done) | skip)
      all_goals (simp_all [isDec])
    | _ => rfl
end Mine

end
section
open PySem PySem.W PyProof.Rows
open PySem.Sem (wp)
set_option Elab.async false
set_option maxRecDepth 100000
set_option maxHeartbeats 4000000
namespace Mine
section
variable {α β : Type} {M : Model} {A : Around} {E : Value → Shared → Prop} {s : Shared}
theorem wpR_runValue {c : Code} {Q : Value → Shared → Prop} (hd : isDec c = false)
    (hc : codeR M A c (fun r s' => match r with | .ok (.ret v) => Q v s' | .ok _ => False | .error e => E e s') s) :
    wpR M A (runValue c) Q E s := fun Γ p hΓ g => by rw [Sem.wp_runValue]; exact hc _ p rfl (hΓ.enter c none p (by intro x; cases x)) (g.enter hd none p)
theorem wpR_call {f : Value} {pos : List Value} {kw : List (Str × Value)} {Q : Value → Shared → Prop}
    (hc : codeR M A (.call f ⟨pos, kw⟩) (fun r s' => match r with | .ok (.ret v) => Q v s' | .ok _ => False | .error e => E e s') s) :
    wpR M A (call f pos kw) Q E s := wpR_runValue rfl hc
theorem wpR_run {c : Code} {Q : Flow → Shared → Prop} (hd : isDec c = false)
    (hc : codeR M A c (fun r s' => match r with | .ok f => Q f s' | .error e => E e s') s) :
    wpR M A (run c) Q E s := fun Γ p hΓ g => by rw [Sem.wp_run]; exact hc _ p rfl (hΓ.enter c none p (by intro x; cases x)) (g.enter hd none p)
theorem wpR_onRaise {m : Sem α} {k : Value → Sem Unit} {Q : α → Shared → Prop}
    (h : wpR M A m Q (fun e s' => wpR M A (k e) (fun _ s'' => E e s'') E s') s) : wpR M A (m.onRaise k) Q E s := fun Γ p hΓ g => by
  rw [Sem.wp_onRaise]
  exact Sem.wp_mono M Γ m (fun _ _ _ h' => h') (fun e p' s' h' => h' Γ p' hΓ g) p s (h Γ p hΓ g)
end
section
variable {prog : Program} {w : World} {A : Around} {s : Shared} {E : Value → Shared → Prop}
theorem codeR_builtin {id : String} {args : Args} {b : Builtin} {R : Result → Shared → Prop} (hb : entryFor table id = some b)
    (h : wpR (model prog w) (A.under (.builtin id args)) (b args)
      (fun fin s' => match fin with | .done f => R (.ok f) s' | .again c' => c'.quiet = true ∧ isDec c' = false ∧ codeR (model prog w) A c' R s') (fun e s' => R (.error e) s') s) :
    codeR (model prog w) A (.builtin id args) R s := codeR_of_tree (by
  show wpR _ _ (match entryFor table id with | some b => b args | none => unsupported ((withoutEnding? id "#data").getD id)) _ _ s
  rw [hb]; exact h)
theorem codeR_call_builtin {id : String} {args : Args} {b : Builtin} {R : Result → Shared → Prop} (hq : plainId id = true) (hdec : isDec (.builtin id args) = false) (hb : entryFor table id = some b)
    (h : wpAny (model prog w) A.in1 (checkBuiltinCall id args) (fun _ s₁ => wpR (model prog w) A.in1 (b args)
      (fun fin s' => match fin with | .done f => R (.ok f) s' | .again c' => c'.quiet = true ∧ isDec c' = false ∧ codeR (model prog w) A c' R s') (fun e s' => R (.error e) s') s₁)
      (fun e s' => R (.error e) s') s) : codeR (model prog w) A (.call (.builtin id) args) R s := by
  refine codeR_of_tree ?_
  show wpR _ A.in1 (do checkBuiltinCall id args; again (.builtin id args)) _ _ s
  refine wpR_any_bind (wpAny_mono h (fun _ s₁ h₁ => wpR_pure ⟨plainId_quiet hq args, hdec, codeR_builtin hb ?_⟩) fun _ _ h' => h')
  rw [Around.under_plainId hq args]
  exact h₁
end
end Mine
namespace Mine
namespace F
theorem ba_mro : mroOf (.type "bytearray") = pure [.type "bytearray", .type "object"] := by rw [mroOf_type]; kernel_rfl
theorem ba_lookup_new : typeLookup (.type "bytearray") "__new__" = pure (some (.builtin "bytearray.__new__")) := by rw [typeLookup_type, builtinLookup_eq_fast]; kernel_rfl
theorem ba_slot_init : Slot "bytearray" "__init__" "bytearray.__init__" :=
  .of (owner := "bytearray") (n := "__init__") (by rw [typeLookup_type, builtinLookup_eq_fast]; kernel_rfl) (by decide +kernel) (by decide +kernel) (by decide +kernel)
    (by first | exact .inl (by decide +kernel) | exact .inr (by decide +kernel)) (by rw [isSubtype_type]; kernel_rfl)
theorem ba_slot_setitem : Slot "bytearray" "__setitem__" "bytearray.__setitem__" :=
  .of (owner := "bytearray") (n := "__setitem__") (by rw [typeLookup_type, builtinLookup_eq_fast]; kernel_rfl) (by decide +kernel) (by decide +kernel) (by decide +kernel)
    (by first | exact .inl (by decide +kernel) | exact .inr (by decide +kernel)) (by rw [isSubtype_type]; kernel_rfl)
theorem ba_called : TypeCalled "bytearray" "bytearray.__new__" "bytearray.__init__" :=
  ⟨by decide +kernel, by decide +kernel, ⟨_, _, ba_mro⟩, madeBy_type ba_mro ba_lookup_new (by decide +kernel), by decide +kernel, by rw [isSubtype_type]; kernel_rfl, ba_slot_init⟩
theorem ba_typeCall (a : Value) : checkTypeCall "bytearray" ⟨[a], []⟩ = pure () := by kernel_rfl
theorem ba_newCall (a : Value) : checkBuiltinCall "bytearray.__new__" ⟨[.type "bytearray", a], []⟩ = pure () := by kernel_rfl
theorem ba_plain : plainId "bytearray.__new__" = true := by decide +kernel
theorem ba_entry_new : entryFor table "bytearray.__new__" = some Builtin.«list.__new__» :=
  entryFor_alias (id' := "list.__new__") (by kernel_rfl) (by first | rfl | decide +kernel) (by decide +kernel) (by kernel_rfl)
theorem ba_entry_init : entryFor table "bytearray.__init__" = some Builtin.«bytearray.__init__» := by first | exact entryFor_of_fast (by kernel_rfl) | exact entryFor_of_tree (by kernel_rfl)
theorem ba_entry_setitem : entryFor table "bytearray.__setitem__" = some Builtin.«bytearray.__setitem__» := by first | exact entryFor_of_fast (by kernel_rfl) | exact entryFor_of_tree (by kernel_rfl)
theorem ba_args_init (a b : Value) : argsOk "bytearray.__init__" ⟨[a, b], []⟩ := by unfold argsOk; kernel_rfl
theorem ba_args_setitem (a b c : Value) : argsOk "bytearray.__setitem__" ⟨[a, b, c], []⟩ := by unfold argsOk; kernel_rfl
theorem ba_bind (v : Value) : Builtin.Bytes.bindOptional "bytearray.__init__" "bytearray" ["source", "encoding", "errors"] [v] [] = pure [some v, none, none] := by kernel_rfl
theorem ba_release : typeLookup (.type "bytearray") "__release_buffer__" = pure (some (.builtin "bytearray.__release_buffer__")) := by rw [typeLookup_type, builtinLookup_eq_fast]; kernel_rfl
theorem ba_buffer : typeLookup (.type "bytearray") "__buffer__" = pure (some (.builtin "bytearray.__buffer__")) := by rw [typeLookup_type, builtinLookup_eq_fast]; kernel_rfl
theorem ba_no_bytes : typeLookup (.type "bytearray") "__bytes__" = pure none := by rw [typeLookup_type, builtinLookup_eq_fast]; kernel_rfl
theorem ba_no_index : typeLookup (.type "bytearray") "__index__" = pure none := by rw [typeLookup_type, builtinLookup_eq_fast]; kernel_rfl
theorem ba_sub : isSubtype (.type "bytearray") (.type "bytearray") = pure true := by rw [isSubtype_type]; kernel_rfl
theorem int_index : typeLookup (.type "int") "__index__" = pure (some (.builtin "int.__index__")) := by rw [typeLookup_type, builtinLookup_eq_fast]; kernel_rfl
end F
set_option maxRecDepth 1000000 in
set_option maxHeartbeats 4000000 in
theorem owner_ba_new : ("bytearray.__new__".splitOn ".__new__").headD "" = "bytearray" := by simp +decide [String.splitOn, String.splitOnAux]
end Mine

end
section
open PySem PySem.W PyProof.Rows
open PySem.Sem (wp)
set_option Elab.async false
set_option maxRecDepth 100000
set_option maxHeartbeats 4000000
namespace Mine
abbrev callerΓ : Ctx := ⟨.builtin "claim.caller" {}, none, none, [], none⟩
theorem callerΓ_good : Good callerΓ := ⟨by show Builtin.Bytes.decodersThatHold.contains "claim.caller" = false; decide +kernel, fun _ h => nomatch h⟩
/-- what the walk of a law must show, in restricted contexts -/
abbrev WalkR (q : Program) (loose : List Str) (XP : (Str → Option Value) → Heap → Prop) (YP : World → Heap → Prop) (r : RowW) (d : DefRec) (kwd : List (Str × Expr)) : Prop :=
  ∀ (w : World) (s₀ s₁ : Shared) (mg mb : Str → Option Value), Ground q loose r.records XP w s₀ mg mb s₁.heap → YP w s₁.heap → ∀ (a : Addr) (o : Obj) (pm cd doc dV kV : Value), s₁.heap.get? a = some o →
    o.data = .func { Calls.docDef d.name d.params d.body d.scope pm cd doc with defaults := dV, kwdefaults := kV } → s₁.heap.CodeRec cd d.name → Dflts mg s₁.heap d.params kwd dV kV → mg d.name = some (.ref a) → s₁.gens = #[] →
    ∀ (args : List WData) (vals : List Value) (as : List Addr), r.claim.pre args = true → WData.layableAll args = true → ReadsAllW r.records (classAt s₀.heap) s₁.heap vals args as → WellAll w.params s₁.heap vals args → (∀ a ∈ as, (a == sysModules) = false) →
      wpR (model r.prog w) callerA (call (.ref a) vals) (fun v s' => GoodWG r.claim (classAt s₀.heap) (ExcName.means s₀.heap) args s₁ (.ok (.ret v)) s')
        (fun e s' => GoodWG r.claim (classAt s₀.heap) (ExcName.means s₀.heap) args s₁ (.error e) s') s₁
theorem thread_endsR {prog : Program} {w : World} {t : Sem PySem.Fin} {s : Shared} {R : Result → Shared → Prop} (hreg : s.asleep)
    (h : wpR (model prog w) callerA t (fun fin s' => ∃ f, fin = .done f ∧ (R (.ok f) s' ∧ leftWithCleanup s'.gens = false)) (fun e s' => R (.error e) s' ∧ leftWithCleanup s'.gens = false) s) :
    ∃ n r s' s'', runN (denote table) prog w n s ⟨t, .builtin "claim.caller" {}, default, []⟩ = .halted (outcomeOf r) s' ∧
      schedN (denote table) prog w n (.single s ⟨t, .builtin "claim.caller" {}, default, []⟩) = .halted (outcomeOf r) s' ∧ s'.forget = s''.forget ∧ R r s'' := by
  have h' : wp (model prog w) callerΓ t (Sem.finPost (model prog w) callerΓ fun r s' => R r s' ∧ leftWithCleanup s'.gens = false) (fun e _ s' => R (.error e) s' ∧ leftWithCleanup s'.gens = false) default s := by
    refine Sem.wp_mono _ callerΓ t (fun fin p s₁ q => ?_) (fun _ _ _ q => q) default s (h callerΓ default caller_in callerΓ_good)
    obtain ⟨f, rfl, q⟩ := q
    exact q
  obtain ⟨n, r, s₁, s₂, e1, e2, e3, e4⟩ := wp_halts_full (M := model prog w) (R := R) hreg h'
  exact ⟨n, r, s₂, s₁, e2, e1, e3, e4⟩
end Mine
namespace Mine.PySem.W
/-- the head, for a walk in restricted contexts; the head's tactic finds it ahead of the kit's own inside the namespace Mine -/
theorem holds_open {r : OpenRow} {q : Program} {loose : List Str} {Xt : Shared → Bool} {XP : (Str → Option Value) → Heap → Prop} {α : Type} {Yf : Shared → α} {Ya : World → α} {YP : World → Heap → Prop} {d : DefRec} {kwd : List (Str × Expr)} {N : Nat}
    (left : LeftO r.prog q loose Xt Yf Ya N) (hY : ∀ w s, Yf s = Ya w → YP w s.heap) (hYk : ∀ w h h', YP w h → (∀ b o, h.get? b = some o → h'.get? b = some o) → YP w h')
    (hX : ∀ s, Xt s = true → XP (s.heap.nsMap mainGlobals) s.heap) (hXk : ∀ mg h h', XP mg h → (∀ b o, h.get? b = some o → h'.get? b = some o) → XP mg h')
    (hdef : defOf q r.name = some (d, kwd)) (hp : r.prog.theDef r.name = some (d.params, d.body, d.scope)) (hk : kwWritten? d.params.kwonlyargs d.params.kw_defaults = some kwd) (hRf : ∀ s, Xt s = true → RecFacts r.records s.heap) (hwr : (!r.writes || r.records.isEmpty) = true)
    (k1 : r.wellSaid = true) (ok : (chainsOk q && opensWell r.prog && (frees r.toRowW && r.within.isEmpty)) = true) (hb : r.prog.bare) (hw : r.toRowW.promised)
    (walk : WalkR q loose XP YP r.toRowW d kwd) : r.Holds := by
  obtain ⟨okA, okB⟩ := Bool.and_eq_true_iff.mp ok
  obtain ⟨hch, hop⟩ := Bool.and_eq_true_iff.mp okA
  obtain ⟨hfr, hwn⟩ := Bool.and_eq_true_iff.mp okB
  obtain ⟨hsame, hu, ha, hap, hm⟩ := frees_parts hfr
  have hi := ident_freeW (r := r.toRowW) hu ha hap
  have hwi : r.toRowW.claim.within = [] := List.isEmpty_iff.mp hwn
  have lb := fun w => left.behind (XP := fun mg h => XP mg h ∧ RecFacts r.records h) (fun s hs => ⟨hX s hs, hRf s hs⟩) hch w
  refine ⟨k1, hw, ⟨⟨hb, hop, by show r.toRowW.makers.map _ = []; rw [hm]; rfl⟩, hw.witness, fun w => ⟨(lb w).1, fun s' hs' => ?_⟩⟩⟩
  obtain ⟨sF, hf, hg0, s, hT, hz, hgens, hg, ⟨x1, x2, x3, x4, x5, x6, x7, x8, x9, x10, x11, x12⟩, y⟩ := (lb w).2 s' hs'
  have GN : Ground q loose [] XP w s (s.heap.nsMap mainGlobals) (s.heap.nsMap builtinsNs) s.heap := ⟨x1, x2, x3, x4, x5, x6, x7.1, x8, x9, x10, x11, x12⟩
  have RF := x7.2
  have hT' := hT
  have hgens : s.gens = #[] := Array.eq_empty_of_size_eq_zero (beq_iff_eq.mp hgens)
  have G : Ground q loose r.records XP w s _ _ s.heap := RF.ground GN
  refine ⟨sF, hf, hg0, s, hT, ?_, RF.1, RF.2.1, ?_⟩
  · intro n hn
    obtain rfl : n = r.name := by split at hn <;> simp_all
    exact pinned_of_view hg GN hdef hp hk
  intro args hpre hlay ord hord
  obtain ⟨⟨vs, s₁⟩, hlaid⟩ := Option.isSome_iff_exists.mp (layAllW_isSome (P := w.params) (ord := ord) G.has args r.toRowW.args s (pre_splitW hpre).1)
  have keeps := layAllW_keeps _ _ _ hlaid
  have hal := layAllW_rest _ _ _ hlaid
  obtain ⟨as, hrd, hin, hold⟩ := reads_layAllW hord _ _ _ hlaid hlay s₁.heap (fun _ _ e => e)
  have L : Laid r.toRowW.records w s s₁ args vs as := ⟨⟨ord, hord, hlaid⟩, hrd, hin, hold, keeps, hal.1.trans hgens, hal.2.2.1⟩
  have G₁ := G.keeps hXk keeps
  obtain ⟨a, o, pm, cd, doc, dV, kV, h1, h2, h3, h4, h5⟩ := G₁.fn hdef
  have main := walk w s s₁ _ _ G₁ (hYk _ _ _ (hY w s y) keeps) a o pm cd doc dV kV h2 h3 h4 h5 (defOf_name hdef ▸ h1) L.gens args vs as hpre hlay L.reads L.well (L.low G.low)
  let kept : Heap → Prop := fun h' => r.writes = true → namesKept r.prog r.keeps s.heap h' ∧ ∀ x ∈ r.records, ∀ a, classAt s.heap x.1 = some a → recordClass h' a x.1 (x.2.map (·.1)) = true
  have fin : ∀ {x : Result} {s₂ : Shared}, GoodWG r.toRowW.claim (classAt s.heap) (ExcName.means s.heap) args s₁ x s₂ →
      (r.toRowW.claim.Ends s args vs s₁ x s₂ ∧ s₂.os = s.os ∧ kept s₂.heap) ∧ leftWithCleanup s₂.gens = false := fun g => by
    have z := g.laid (c := r.toRowW.claim) hsame hwi hi L
    exact ⟨⟨z.1, z.2.1, fun qq => ⟨namesKept_of hT' hg _ keeps g.2.1.old, noTable hwr qq⟩⟩, leftWithCleanup_false_of_bare z.2.2⟩
  let tree : Sem PySem.Fin := do
    match ← nsGet mainNs r.name with
    | some f => do ret (← call f vs)
    | none => unsupported "claim.caller:no-such-global"
  have run : wpR (model r.prog w) callerA tree (fun f s₂ => ∃ x, f = .done x ∧ ((r.toRowW.claim.Ends s args vs s₁ (.ok x) s₂ ∧ s₂.os = s.os ∧ kept s₂.heap) ∧ leftWithCleanup s₂.gens = false))
      (fun e s₂ => (r.toRowW.claim.Ends s args vs s₁ (.error e) s₂ ∧ s₂.os = s.os ∧ kept s₂.heap) ∧ leftWithCleanup s₂.gens = false) s₁ := by
    refine wpR_any_bind (wpAny_nsGet G₁.T.g ?_)
    rw [h1]
    refine wpR_bind (wpR_mono main (fun v s₂ g => wpR_pure ⟨_, rfl, fin g⟩) fun e s₂ g => fin g)
  obtain ⟨k, res, s₂, s₃, e1, e2, e3, hEnds, hos, hkept⟩ := thread_endsR (R := fun x s₂ => r.toRowW.claim.Ends s args vs s₁ x s₂ ∧ s₂.os = s.os ∧ kept s₂.heap) (Shared.asleep_of_life hal.2.2.2 hz) run
  obtain ⟨eh, _, _, eo, _⟩ := Shared.forget_eq e3
  replace hEnds := hEnds.congr eh
  rw [← eh] at hkept
  rw [← eo] at hos
  have hlife : s₂.heap.life = s.heap.life := (runN_life _ _ _ e1).trans hal.2.2.2
  refine ⟨vs, s₁, hlaid, k, _, s₂, e2, ?_, (fun _ i x hx => by rw [hgens] at hx; simp at hx), hkept, by rw [hlife], Shared.rest_eq hos⟩
  rcases hEnds with ⟨v, rfl, d1, d2, d3, d4, d5⟩ | ⟨e, ob, cls, rfl, d1, d2, d3, d4, d5⟩
  · exact .inl ⟨v, rfl, d1, d2, d3, fun b o y _ => d4 b o y, d5⟩
  · exact .inr ⟨e, ob, cls, rfl, d1, d2, d3, d4, fun b o y _ => d5 b o y⟩
end Mine.PySem.W

end
section
open PySem PySem.W PyProof.Rows
set_option Elab.async false
set_option maxRecDepth 100000
set_option maxHeartbeats 8000000
namespace Mine
open_top hd for PySem.Challenge.rw_rl0017_01
end Mine

end
section
open PySem PySem.W PySem.Spec PySem.Calls PyProof.Rows
set_option Elab.async false
set_option maxRecDepth 100000
set_option maxHeartbeats 4000000
namespace Mine
theorem offB0 : True := by
  w_top off
  trivial

/-- the static ground: the text's own objects, away from the one table (70) that the lambda's first making fills -/
def Gd (w : World) (h : Heap) : Prop := ∃ G : Heap, (hd.heap_39 w.params).In G ∧ (∃ loose mean mg mb, Top topProg loose mean mg mb G) ∧ CodeHd G 74 70 ∧ G.get? 70 = none ∧ G.StaysIn h
theorem Gd.extBut {w : World} {h h' : Heap} (g : Gd w h) (k : Heap.ExtBut 70 h h') : Gd w h' := by
  obtain ⟨G, X, T, C, n, st⟩ := g
  refine ⟨G, X, T, C, n, fun b o e => k b o ?_ (st b o e)⟩
  rintro rfl; rw [n] at e; cases e
theorem Gd.keeps {w : World} {h h' : Heap} (g : Gd w h) (k : h.StaysIn h') : Gd w h' := g.extBut fun b o _ e => k b o e
theorem Gd.X {w : World} {h : Heap} (g : Gd w h) : (hd.heap_39 w.params).In h := by
  obtain ⟨G, X, T, C, n, st⟩ := g
  exact X.keeps st
theorem Gd.T {w : World} {h : Heap} (g : Gd w h) : ∃ loose mean mg mb, Top topProg loose mean mg mb h := by
  obtain ⟨G, X, ⟨lo, mn, mg, mb, T⟩, C, n, st⟩ := g
  exact ⟨lo, mn, mg, mb, T.keeps st⟩
section
variable {prog : Program} {w : World} {A : Around} {s : Shared} {E : Value → Shared → Prop} {Q : Value → Shared → Prop}
/-- a call of one of the text's plain defs -/
theorem enter {name qual : Str} {params : Arguments} {body : List Stmt} {scope : Scope} {dV kV doc pm cdv ct oc : Value} {an od : Option Addr} {osl : Array (Option Value)} {f : Addr} {vs : List Value} {binds : List (Str × Value)}
    (g : Gd w s.heap) (ho : (hd.heap_39 w.params).lookup f = some ⟨oc, od, .func (fnOf name qual params body scope dV kV doc pm an cdv ct), osl⟩) (hcd : codeIn (hd.heap_39 w.params) cdv qual = true) (hroom : A.depth < recursionLimit)
    (hbind : bindArgs (fnOf name qual params body scope dV kV doc pm an cdv ct) ⟨vs, []⟩ = pure binds) (hloc : ∀ y ∈ binds, scope.names.lookup y.1 = some .local)
    (hcell : ∀ x ∈ scope.names, x.2 ≠ .cell) (hco : scope.isCoroutine = false) (hgen : scope.isGenerator = false) (hk : scope.kind = .function)
    (h : ∀ L h₁ tk, Fr s.heap L h₁ (fun y => binds.reverse.lookup y) →
      wpAny (model prog w) (A.deeper (envOf qual scope L f cdv)) (execs body (envOf qual scope L f cdv)) (fun fl s' => Q (match fl with | .ret v => v | _ => .none) s') (fun _ _ => False)
        { s with heap := h₁, toks := tk }) : wpAny (model prog w) A (call (.ref f) vs) Q E s := by
  obtain ⟨lo, mn, mg, mb, T⟩ := g.T
  refine wpAny_call (codeAny_call_def (fd := fnOf name qual params body scope dV kV doc pm an cdv ct) (body := body) (binds := binds) hroom (g.X _ _ ho) rfl T.nolimit (codeRec_of g.X hcd) rfl (BindsTo.of_eq hbind) hcell hloc (fun h₁ hns hk₁ => ?_) hco hgen hk)
  exact wpAny_mono (h _ h₁ _ ⟨hns, hk₁, Nat.le_refl _⟩) (fun _ _ q => q) fun _ _ q => q.elim
end
end Mine

end
section
open PySem PySem.W PySem.Spec PySem.Calls PyProof.Rows
set_option Elab.async false
set_option maxRecDepth 100000
set_option maxHeartbeats 4000000
namespace Mine
theorem offB1 : True := by
  w_top off
  trivial
section
variable {m : Str → Option Value} {a b c d e f : Str} {va vb vc vd ve vf : Option Value} {base : Str → Option Value}
theorem map1 (ha : m a = va) (hr : ∀ z, z ≠ a → m z = base z) : m = fun z => if z = a then va else base z := by
  funext z
  by_cases h1 : z = a
  · subst h1; rw [if_pos rfl]; exact ha
  · rw [if_neg h1]; exact hr z h1
theorem map2 (ha : m a = va) (hb : m b = vb) (hr : ∀ z, z ≠ a → z ≠ b → m z = base z) : m = fun z => if z = a then va else if z = b then vb else base z :=
  map1 ha fun z h1 => by
    by_cases h2 : z = b
    · subst h2; rw [if_pos rfl]; exact hb
    · rw [if_neg h2]; exact hr z h1 h2
theorem map3 (ha : m a = va) (hb : m b = vb) (hc : m c = vc) (hr : ∀ z, z ≠ a → z ≠ b → z ≠ c → m z = base z) : m = fun z => if z = a then va else if z = b then vb else if z = c then vc else base z := by
  funext z
  by_cases h1 : z = a
  · subst h1; rw [if_pos rfl]; exact ha
  · rw [if_neg h1]
    by_cases h2 : z = b
    · subst h2; rw [if_pos rfl]; exact hb
    · rw [if_neg h2]
      by_cases h3 : z = c
      · subst h3; rw [if_pos rfl]; exact hc
      · rw [if_neg h3]; exact hr z h1 h2 h3
theorem map4 (ha : m a = va) (hb : m b = vb) (hc : m c = vc) (hd : m d = vd) (hr : ∀ z, z ≠ a → z ≠ b → z ≠ c → z ≠ d → m z = base z) : m = fun z => if z = a then va else if z = b then vb else if z = c then vc else if z = d then vd else base z := by
  funext z
  by_cases h1 : z = a
  · subst h1; rw [if_pos rfl]; exact ha
  · rw [if_neg h1]
    by_cases h2 : z = b
    · subst h2; rw [if_pos rfl]; exact hb
    · rw [if_neg h2]
      by_cases h3 : z = c
      · subst h3; rw [if_pos rfl]; exact hc
      · rw [if_neg h3]
        by_cases h4 : z = d
        · subst h4; rw [if_pos rfl]; exact hd
        · rw [if_neg h4]; exact hr z h1 h2 h3 h4
theorem map5 (ha : m a = va) (hb : m b = vb) (hc : m c = vc) (hd : m d = vd) (he : m e = ve) (hr : ∀ z, z ≠ a → z ≠ b → z ≠ c → z ≠ d → z ≠ e → m z = base z) : m = fun z => if z = a then va else if z = b then vb else if z = c then vc else if z = d then vd else if z = e then ve else base z :=
  map4 ha hb hc hd fun z h1 h2 h3 h4 => by
    by_cases h5 : z = e
    · subst h5; rw [if_pos rfl]; exact he
    · rw [if_neg h5]; exact hr z h1 h2 h3 h4 h5
end
section
variable {prog : Program} {w : World} {A : Around} {E : Value → Shared → Prop} {s : Shared} {env : Env} {h₀ : Heap} {x : Str} {body : List Stmt} {Q : Flow → Shared → Prop}
theorem fr_kept {h h' : Heap} {L : Addr} {m : Str → Option Value} (F : Fr h₀ L h m) (k : ∀ b o, h.get? b = some o → h'.get? b = some o) : Fr h₀ L h' m :=
  ⟨F.ns.keeps k, fun b o e => k b o (F.keep b o e), F.above⟩
theorem news_kept {h h' : Heap} {L : Addr} {news : List (Addr × Obj)} (N : News h₀ L h news) (k : ∀ b o, h.get? b = some o → h'.get? b = some o) : News h₀ L h' news :=
  fun p hp => ⟨k _ _ (N p hp).1, (N p hp).2⟩
/-- what a turn of a loop must come to -/
def TurnEnd (h₀ : Heap) (L I : Addr) (J : (Str → Option Value) → List (Addr × Obj) → Prop) (own : List (Addr × Obj)) (s₁ : Shared) (Q : Flow → Shared → Prop) (f : Flow) (s₂ : Shared) : Prop :=
  match f with
  | .ret v => Q (.ret v) s₂
  | .brk => Q .next s₂
  | _ => ∃ h' tk' m₂ news₂, s₂ = { s₁ with heap := h', toks := tk' } ∧ Fr h₀ L h' m₂ ∧ News h₀ L h' (news₂ ++ own) ∧ (∀ p ∈ news₂, p.1 ≠ I) ∧ J m₂ news₂
theorem TurnEnd.next {L I : Addr} {J : (Str → Option Value) → List (Addr × Obj) → Prop} {own news₂ : List (Addr × Obj)} {s₁ : Shared} {h' : Heap} {tk' : Nat} {m₂ : Str → Option Value} (F : Fr h₀ L h' m₂) (N : News h₀ L h' (news₂ ++ own)) (hI : ∀ p ∈ news₂, p.1 ≠ I) (hJ : J m₂ news₂) :
    TurnEnd h₀ L I J own s₁ Q .next { s₁ with heap := h', toks := tk' } := ⟨h', tk', m₂, news₂, rfl, F, N, hI, hJ⟩
theorem loop_fresh {o : Obj} {fp : List Addr} {n : Nat} {P : Nat → Value → Prop} {St : Nat → Heap → Prop} {m : Str → Option Value} {news : List (Addr × Obj)}
    (W : Walks prog w A s.heap.objs.size fp [s.heap.objs.size] n P St) (hL : env.locals ∉ fp) (st : St 0 (s.heap.push o)) (F : Fr h₀ env.locals s.heap m) (N : News h₀ env.locals s.heap news)
    (J : Nat → (Str → Option Value) → List (Addr × Obj) → Prop) (j0 : J 0 m news)
    (turn : ∀ i v m₁ news₁ h tk own, i < n → P i v → J i m₁ news₁ → (∀ p ∈ news₁, p.1 ≠ s.heap.objs.size) → (∀ b ∈ fp, h₀.get? b = none → ∀ o, h.get? b = some o → (b, o) ∈ own) → (∀ p ∈ own, p.1 ∈ fp) → (∃ o, h.get? s.heap.objs.size = some o) → Fr h₀ env.locals h (fun y => if y = x then some v else m₁ y) → News h₀ env.locals h (news₁ ++ own) →
      wpAny (model prog w) A (execs body env) (TurnEnd h₀ env.locals s.heap.objs.size (J (i + 1)) own { s with heap := h, toks := tk } Q) E { s with heap := h, toks := tk })
    (done : ∀ h' tk m' news', Fr h₀ env.locals h' m' → News h₀ env.locals h' news' → J n m' news' → Q .next { s with heap := h', toks := tk }) (hI : ∀ i h, St i h → ∃ o, h.get? s.heap.objs.size = some o) :
    LoopAtV prog w A h₀ env x body Q E (.ref s.heap.objs.size) { s with heap := s.heap.push o } := by
  have hnew : h₀.get? s.heap.objs.size = none := next_is_new F
  refine ⟨_, fp, [s.heap.objs.size], n, P, St, m, news, J, rfl, W, hL, ?_, ?_, st, F.push _, (fun p hp => ⟨Heap.get?_push_of_some _ (N p hp).1, (N p hp).2⟩), j0, ?_, ?_⟩
  · intro b hb
    rw [List.mem_singleton.mp hb]; exact hnew
  · intro p hp hI
    exact absurd (Heap.lt_size (N p hp).1) ((List.mem_singleton.mp hI) ▸ Nat.lt_irrefl _)
  · rintro i v m₁ news₁ s₁ own ⟨h, tk, rfl⟩ hin hP hJ hoff hown _ hall hst F₁ N₁
    obtain ⟨oI, hoI⟩ := hI _ _ hst
    have N₂ : News h₀ env.locals h (news₁ ++ own) := fun p hp => N₁ p ((List.mem_append.mp hp).elim (fun h => List.mem_append.mpr (.inr h)) fun h => List.mem_append.mpr (.inl h))
    refine wpAny_mono (turn i v m₁ news₁ h tk own hin hP hJ (fun p hp e => hoff p hp (by simp [e])) hall hown ⟨oI, hoI⟩ F₁ N₂) (fun f s₂ q => ?_) fun _ _ e => e
    have fin : (∃ h' tk' m₂ news₂, s₂ = { s with heap := h', toks := tk' } ∧ Fr h₀ env.locals h' m₂ ∧ News h₀ env.locals h' (news₂ ++ own) ∧ (∀ p ∈ news₂, p.1 ≠ s.heap.objs.size) ∧ J (i + 1) m₂ news₂) →
        LoopStepU h₀ env.locals [s.heap.objs.size] own (J (i + 1)) { s with heap := h, toks := tk } .next s₂ := by
      rintro ⟨h', tk', m₂, news₂, rfl, F', N', hn, hJ'⟩
      exact ⟨rfl, h', tk', m₂, news₂, rfl, F', fun p hp => N' p ((List.mem_append.mp hp).elim (fun h => List.mem_append.mpr (.inr h)) fun h => List.mem_append.mpr (.inl h)), fun p hp e => hn p hp (List.mem_singleton.mp e), hJ'⟩
    cases f with
    | ret v => exact .ret q
    | brk => exact .brk q
    | next => exact .next (fin q)
    | cont => exact .cont (fin q)
  · intro h' tk m' news' F' N' _ hJ
    exact done h' tk m' news' F' N' hJ
/-- a loop over a text's signs -/
theorem loop_str {y : Str} {t : Tok} {m : Str → Option Value} {news : List (Addr × Obj)} (hh : A.handled = none) (F : Fr h₀ env.locals s.heap m) (N : News h₀ env.locals s.heap news)
    (J : Nat → (Str → Option Value) → List (Addr × Obj) → Prop) (j0 : J 0 m news)
    (turn : ∀ i c u m₁ news₁ h tk own, y.cps[i]? = some c → J i m₁ news₁ → (∀ p ∈ news₁, p.1 ≠ s.heap.objs.size) → s.heap.objs.size < h.objs.size → Fr h₀ env.locals h (fun z => if z = x then some (.str ⟨#[c]⟩ u) else m₁ z) → News h₀ env.locals h (news₁ ++ own) →
      wpAny (model prog w) A (execs body env) (TurnEnd h₀ env.locals s.heap.objs.size (J (i + 1)) own { s with heap := h, toks := tk } Q) E { s with heap := h, toks := tk })
    (done : ∀ h' tk m' news', Fr h₀ env.locals h' m' → News h₀ env.locals h' news' → J y.cps.size m' news' → Q .next { s with heap := h', toks := tk }) :
    wpAny (model prog w) A (pyIter (.str y t)) (fun it s₂ => LoopAtV prog w A h₀ env x body Q E it s₂) E s := by
  have hL : env.locals ∉ [s.heap.objs.size] := fun hm => absurd F.ns.lt ((List.mem_singleton.mp hm) ▸ Nat.lt_irrefl _)
  have tn : ∀ i v m₁ news₁ h tk own, i < y.cps.size → SignAt y i v → J i m₁ news₁ → (∀ p ∈ news₁, p.1 ≠ s.heap.objs.size) → (∀ b ∈ [s.heap.objs.size], h₀.get? b = none → ∀ o, h.get? b = some o → (b, o) ∈ own) → (∀ p ∈ own, p.1 ∈ [s.heap.objs.size]) → (∃ o, h.get? s.heap.objs.size = some o) → Fr h₀ env.locals h (fun y => if y = x then some v else m₁ y) → News h₀ env.locals h (news₁ ++ own) →
      wpAny (model prog w) A (execs body env) (TurnEnd h₀ env.locals s.heap.objs.size (J (i + 1)) own { s with heap := h, toks := tk } Q) E { s with heap := h, toks := tk } := by
    rintro i v m₁ news₁ h tk own hin ⟨c, u, hc, rfl⟩ hJ h1 _ _ h4 F₁ N₁
    exact turn i c u m₁ news₁ h tk own hc hJ h1 (Heap.lt_size h4.choose_spec) F₁ N₁
  cases ha : y.cps.all (· < 128)
  · refine wpAny_pyIter_wide ha ?_
    exact loop_fresh (Walks.strWide hh _ y t) hL ⟨_, Heap.get?_push_size _ rfl, rfl, rfl⟩ F N J j0 tn done (fun i h st => let ⟨o, ho, _⟩ := st; ⟨o, ho⟩)
  · refine wpAny_pyIter_ascii ha ?_
    exact loop_fresh (Walks.strAscii hh _ y t) hL ⟨_, Heap.get?_push_size _ rfl, rfl, rfl⟩ F N J j0 tn done (fun i h st => let ⟨o, ho, _⟩ := st; ⟨o, ho⟩)
/-- a loop over a list that lies in the base -/
theorem loop_list {l : Addr} {items : Array Value} {m : Str → Option Value} {news : List (Addr × Obj)} (hh : A.handled = none) (hl : h₀.IsList l items) (F : Fr h₀ env.locals s.heap m) (N : News h₀ env.locals s.heap news)
    (J : Nat → (Str → Option Value) → List (Addr × Obj) → Prop) (j0 : J 0 m news)
    (turn : ∀ i v m₁ news₁ h tk own, items[i]? = some v → J i m₁ news₁ → (∀ p ∈ news₁, p.1 ≠ s.heap.objs.size) → s.heap.objs.size < h.objs.size → Fr h₀ env.locals h (fun z => if z = x then some v else m₁ z) → News h₀ env.locals h (news₁ ++ own) →
      wpAny (model prog w) A (execs body env) (TurnEnd h₀ env.locals s.heap.objs.size (J (i + 1)) own { s with heap := h, toks := tk } Q) E { s with heap := h, toks := tk })
    (done : ∀ h' tk m' news', Fr h₀ env.locals h' m' → News h₀ env.locals h' news' → J items.size m' news' → Q .next { s with heap := h', toks := tk }) :
    wpAny (model prog w) A (pyIter (.ref l)) (fun it s₂ => LoopAtV prog w A h₀ env x body Q E it s₂) E s := by
  have hls : s.heap.IsList l items := hl.at fun o e => F.keep l o e
  obtain ⟨ol, hol, _⟩ := id hl
  have hlt : l < h₀.objs.size := Heap.lt_size hol
  have hne : l ≠ s.heap.objs.size := Nat.ne_of_lt (Nat.lt_trans (Nat.lt_of_lt_of_le hlt F.above) F.ns.lt)
  refine wpAny_pyIter_list hls ?_
  have hL : env.locals ∉ [s.heap.objs.size, l] := by
    intro hm
    rcases List.mem_cons.mp hm with e | hm
    · exact absurd F.ns.lt (e ▸ Nat.lt_irrefl _)
    · exact absurd (Nat.lt_of_lt_of_le hlt F.above) ((List.mem_singleton.mp hm) ▸ Nat.lt_irrefl _)
  refine loop_fresh (Walks.list hh _ l hne items) hL ⟨⟨_, Heap.get?_push_size _ rfl, rfl, rfl⟩, hls.at fun o e => Heap.get?_push_of_some _ e⟩ F N J j0 ?_ done (fun i h st => let ⟨o, ho, _⟩ := st.1; ⟨o, ho⟩)
  intro i v m₁ news₁ h tk own _ hP hJ h1 _ _ h4 F₁ N₁
  exact turn i v m₁ news₁ h tk own hP hJ h1 (Heap.lt_size h4.choose_spec) F₁ N₁
/-- a loop over a range -/
theorem loop_range {r : Addr} {a₀ b₀ c : Int} {t₀ u₀ v₀ : Tok} {n : Nat} {m : Str → Option Value} {news : List (Addr × Obj)} (hh : A.handled = none) (hr : IsRange s.heap r a₀ b₀ c t₀ u₀ v₀) (hsmall : Builtin.Range.small a₀ b₀ c = true) (hn : Builtin.Range.rangeSize a₀ b₀ c = (n : Int))
    (F : Fr h₀ env.locals s.heap m) (N : News h₀ env.locals s.heap news)
    (J : Nat → (Str → Option Value) → List (Addr × Obj) → Prop) (j0 : J 0 m news)
    (turn : ∀ i t m₁ news₁ h tk own, i < n → J i m₁ news₁ → (∀ p ∈ news₁, p.1 ≠ s.heap.objs.size) → s.heap.objs.size < h.objs.size → Fr h₀ env.locals h (fun z => if z = x then some (.int (a₀ + (i : Int) * c) t) else m₁ z) → News h₀ env.locals h (news₁ ++ own) →
      wpAny (model prog w) A (execs body env) (TurnEnd h₀ env.locals s.heap.objs.size (J (i + 1)) own { s with heap := h, toks := tk } Q) E { s with heap := h, toks := tk })
    (done : ∀ h' tk m' news', Fr h₀ env.locals h' m' → News h₀ env.locals h' news' → J n m' news' → Q .next { s with heap := h', toks := tk }) :
    wpAny (model prog w) A (pyIter (.ref r)) (fun it s₂ => LoopAtV prog w A h₀ env x body Q E it s₂) E s := by
  have hL : env.locals ∉ [s.heap.objs.size] := fun hm => absurd F.ns.lt ((List.mem_singleton.mp hm) ▸ Nat.lt_irrefl _)
  refine wpAny_pyIter_range hr hsmall ?_
  refine loop_fresh (Walks.range hh _ a₀ c n) hL (by show IsRangeIter _ _ _ _ _; rw [hn]; simpa using Heap.get?_push_size _ rfl) F N J j0 ?_ done (fun i h st => ⟨_, st⟩)
  rintro i v m₁ news₁ h tk own hi ⟨t, rfl⟩ hJ h1 _ _ h4 F₁ N₁
  exact turn i t m₁ news₁ h tk own hi hJ h1 (Heap.lt_size h4.choose_spec) F₁ N₁
end
end Mine

end
section
open PySem PySem.W PySem.Spec PySem.Calls PyProof.Rows
set_option Elab.async false
set_option maxRecDepth 100000
set_option maxHeartbeats 4000000
namespace Mine
theorem offN1 : True := by
  w_top off
  trivial
theorem fill : PySem.Challenge.rw_rl0017_01 = PySem.Challenge.rw_rl0017_01 ∧ hd.heap_39 = hd.heap_39 := by
  k_fill
  exact ⟨rfl, rfl⟩
section
variable {prog : Program} {w : World} {A : Around} {s : Shared} {E : Value → Shared → Prop} {Q : Value → Shared → Prop}
def numL (l : List Nat) : Int := l.foldl (fun a c => 2 * a + if c = 48 then 0 else 1) 0
theorem numL_take {l : List Nat} {i c : Nat} (h : l[i]? = some c) : numL (l.take (i + 1)) = 2 * numL (l.take i) + if c = 48 then 0 else 1 := by
  unfold numL
  rw [List.take_add_one, h]; simp
theorem occ01 {c : Nat} (hc : c = 48 ∨ c = 49) : ∃ i : Nat, ∃ r, Builtin.Str.occurrences (Str.ofString "01") ⟨#[c]⟩ 0 (Str.ofString "01").length 1 = i :: r ∧ (i : Int) = if c = 48 then 0 else 1 := by
  rcases hc with rfl | rfl
  · exact ⟨0, [], by decide +kernel, rfl⟩
  · exact ⟨1, [], by decide +kernel, rfl⟩
theorem num_spec {x : Str} {t : Tok} (hx : ∀ c ∈ x.cps.toList, c = 48 ∨ c = 49) (g : Gd w s.heap) (hd : A.depth < recursionLimit) (hh : A.handled = none)
    (ret : ∀ t' h' tk, s.heap.StaysIn h' → Q (.int (numL x.cps.toList) t') { s with heap := h', toks := tk }) : wpAny (model prog w) A (call (.ref 92) [.str x t]) Q E s := by
  refine' enter (binds := [(Str.ofString "word", .str x t)]) g ?ho ?hcd hd ?hb ?hl ?hce ?hco ?hg ?hk ?_
  case ho => k_is
  case hcd => k_is
  case hb => exact rfl
  case hl => exact locs rfl
  case hce => decide
  case hco => exact rfl
  case hg => exact rfl
  case hk => exact rfl
  intro L h₁ tk F
  have X := g.X
  obtain ⟨lo, mn, mg, mb, T⟩ := g.T
  have N : News s.heap L h₁ [] := News.nil
  iterate 5 walk1
  rename_i hF hN
  refine For_invV s.heap rfl rfl ?_
  walk1
  refine loop_str (A := A.deeper _) hh hF hN (fun i m news => news = [] ∧ ∃ t' u, m = fun z => if z = Str.ofString "sign" then u else if z = Str.ofString "number" then some (.int (numL (x.cps.toList.take i)) t') else [(Str.ofString "word", Value.str x t)].reverse.lookup z) ⟨rfl, ?_⟩ ?_ ?_
  · exact ⟨_, _, map2 rfl rfl fun z h1 h2 => by simp only [if_neg h2]⟩
  · rintro i c u m₁ news₁ h tk own hc ⟨rfl, t', u', rfl⟩ _ hI F₁ N₁
    iterate 14 walk1
    have hc' : x.cps.toList[i]? = some c := by simpa using hc
    obtain ⟨j, r, ho, hj⟩ := occ01 (hx c (List.mem_of_getElem? hc'))
    refine SC.index ho ?_
    iterate 4 walk1
    rename_i hF' hN'
    refine TurnEnd.next (news₂ := []) hF' hN' (fun _ h => nomatch h) ?_
    exact ⟨rfl, _, _, map2 rfl (by rw [numL_take hc', ← hj]; rfl) fun z h1 h2 => by simp only [if_neg h1, if_neg h2]⟩
  · rintro h' tk m' news' F' N' ⟨rfl, t', u', rfl⟩
    have e0 : x.cps.toList.take x.cps.size = x.cps.toList := by rw [← Array.length_toList, List.take_length]
    rw [e0] at F'
    walk1
    walk1
    walk1
    exact ret _ _ _ F'.keep
end
end Mine

end
section
open PySem PySem.W PySem.Spec PySem.Calls PyProof.Rows
set_option Elab.async false
set_option maxRecDepth 100000
set_option maxHeartbeats 4000000
namespace Mine
theorem offL1 : True := by
  w_top off
  trivial
theorem fillL : PySem.Challenge.rw_rl0017_01 = PySem.Challenge.rw_rl0017_01 ∧ hd.heap_39 = hd.heap_39 := by
  k_fill
  exact ⟨rfl, rfl⟩
/-- the lambda that the text of _law_rule makes: read off the written part -/
def lamOf : Option Obj → Option (Arguments × Expr × Scope × Pos)
  | some ⟨_, _, .func fd, _⟩ => (match fd.body with
      | .stmts (_ :: .Assign _ (.Lambda ps b sc pos) _ :: _) => some (ps, b, sc, pos)
      | _ => none)
  | _ => none
def lamQual : Str := (Str.ofString "_law_rule" ++ Str.ofString ".<locals>.") ++ Str.ofString "<lambda>"
/-- σ holds, at f, the lambda that keeps front -/
def LamG (w : World) (σ : Addr → Obj → Prop) (f : Addr) (front : Str) : Prop :=
  ∃ c oc t ps bd sc pos pm c' ctv o2 vs t2, lamOf ((hd.heap_39 w.params).lookup 75) = some (ps, bd, sc, pos) ∧ σ f (kla_obj "<lambda>" lamQual ps bd sc [(Str.ofString "front", c)] pm c' ctv) ∧
    (σ c' o2 ∧ o2.data = .fields vs ∧ vs[1]? = some (.str lamQual t2)) ∧ σ c oc ∧ oc.data = .cell (some (.str front t))
/-- what a heap holds -/
abbrev inH (h : Heap) : Addr → Obj → Prop := fun a o => h.get? a = some o
/-- what a ledger holds -/
abbrev inL (l : List (Addr × Obj)) : Addr → Obj → Prop := fun a o => (a, o) ∈ l
theorem LamG.mono {w : World} {σ τ : Addr → Obj → Prop} {f : Addr} {front : Str} (x : LamG w σ f front) (k : ∀ b o, σ b o → τ b o) : LamG w τ f front := by
  obtain ⟨c, oc, t, ps, bd, sc, pos, pm, c', ctv, o2, vs, t2, h1, h2, ⟨h3, h3'⟩, h4, h5⟩ := x
  exact ⟨c, oc, t, ps, bd, sc, pos, pm, c', ctv, o2, vs, t2, h1, k _ _ h2, ⟨k _ _ h3, h3'⟩, k _ _ h4, h5⟩
section
variable {prog : Program} {w : World} {A : Around} {s : Shared} {E : Value → Shared → Prop} {Q : Value → Shared → Prop}
theorem enterLam {name qual : Str} {params : Arguments} {body : Expr} {scope : Scope} {cl : List (Str × Addr)} {pm ctv : Value} {c' : Addr} {f : Addr} {vs : List Value} {binds : List (Str × Value)}
    (g : Gd w s.heap) (ho : s.heap.get? f = some (kla_obj name qual params body scope cl pm c' ctv)) (hcd : s.heap.CodeRec (.ref c') qual) (hroom : A.depth < recursionLimit)
    (hbind : bindArgs (kla_fn name qual params body scope cl pm (.ref c') ctv) ⟨vs, []⟩ = pure binds) (hloc : ∀ y ∈ binds, scope.names.lookup y.1 = some .local)
    (hcell : ∀ x ∈ scope.names, x.2 ≠ .cell) (hco : scope.isCoroutine = false) (hgen : scope.isGenerator = false) (hk : scope.kind = .function)
    (h : ∀ L h₁ tk, Fr s.heap L h₁ (fun y => binds.reverse.lookup y) →
      wpAny (model prog w) (A.deeper (envX qual scope L f (.ref c') cl)) (eval body (envX qual scope L f (.ref c') cl)) Q (fun _ _ => False) { s with heap := h₁, toks := tk }) :
    wpAny (model prog w) A (call (.ref f) vs) Q E s := by
  obtain ⟨lo, mn, mg, mb, T⟩ := g.T
  refine wpAny_call (kla_callFunE hroom ho rfl hco hgen rfl hcd ?_)
  rw [hbind]
  refine wpAny_pure (wpAny_newFunctionEnv hcell hloc (fun h₁ hns hsb => ⟨(T.nolimit).fresh _ hsb, ?_⟩) hk)
  show codeAny _ _ (.expr body (envX qual scope s.heap.objs.size f (.ref c') cl)) _ _
  have hk₁ : ∀ b o, s.heap.get? b = some o → h₁.get? b = some o := fun b o e => hsb.extBut b o (Nat.ne_of_lt (Heap.lt_size e)) (Heap.get?_push_of_some _ e)
  exact kla_codeExpr (wpAny_mono (h _ h₁ _ ⟨hns, hk₁, Nat.le_refl _⟩) (fun _ _ q => q) fun _ _ q => q.elim)
theorem lam_is {w : World} {o : Obj} {r : Option (Arguments × Expr × Scope × Pos)} (e : (Mine.hd.heap_39 w.params).lookup 75 = some o) (h : lamOf ((Mine.hd.heap_39 w.params).lookup 75) = r) : lamOf (some o) = r := e ▸ h
/-- what the lambda answers: how much of the name it takes, 0 if none -/
def meets (name : Str) (front : Str) : Int := if Txt.startswith name front then (front.length : Int) + 1 else 0
theorem lam_spec {f : Addr} {front y : Str} {t : Tok} (x : LamG w (inH s.heap) f front) (hlen : front.length ≤ 100) (g : Gd w s.heap) (hd : A.depth < recursionLimit) 
    (ret : ∀ t' h' tk, s.heap.StaysIn h' → Q (.int (meets y front) t') { s with heap := h', toks := tk }) : wpAny (model prog w) A (call (.ref f) [.str y t]) Q E s := by
  unfold meets at ret
  obtain ⟨c, oc, tf, ps, bd, sc, pos, pm, c', ctv, o2, vs2, t2, h1, h2, ⟨h3a, h3b, h3c⟩, h4, h5⟩ := x
  have h3 : s.heap.CodeRec (.ref c') lamQual := ⟨c', o2, vs2, t2, rfl, h3a, h3b, h3c⟩
  replace h1 := lam_is (by k_is) h1
  simp only [lamOf] at h1
  injection h1 with h1
  injection h1 with e1 h1
  injection h1 with e2 h1
  injection h1 with e3 h1
  subst e1 e2 e3
  refine' enterLam (binds := [(Str.ofString "name", .str y t)]) g h2 h3 hd ?hb ?hl ?hce ?hco ?hg ?hk ?_
  case hb => exact rfl
  case hl => exact locs rfl
  case hce => decide
  case hco => exact rfl
  case hg => exact rfl
  case hk => exact rfl
  intro L h₁ tk F
  have X := g.X
  obtain ⟨lo, mn, mg, mb, T⟩ := g.T
  have N : News s.heap L h₁ [] := News.nil
  iterate 7 walk1
  refine wpAny_Name (wpAny_loadName_free rfl rfl rfl ⟨oc, F.keep _ _ h4, h5⟩ ?_ (by decide)) (by decide)
  iterate 3 walk1
  split
  · rename_i hs
    iterate 5 walk1
    refine wpAny_Name (wpAny_loadName_free rfl rfl rfl ⟨oc, F.keep _ _ h4, h5⟩ ?_ (by decide)) (by decide)
    walk1
    refine PyProof.Rows.len_str (by omega) ?_
    iterate 2 walk1
    rw [if_pos hs] at ret
    exact ret _ _ _ F.keep
  · rename_i hs
    walk1
    rw [if_neg hs] at ret
    exact ret _ _ _ F.keep
end
end Mine

end
section
open PySem PySem.W PySem.Spec PySem.Calls PyProof.Rows
set_option Elab.async false
set_option maxRecDepth 100000
set_option maxHeartbeats 4000000
namespace Mine
theorem offA1 : True := by
  w_top off
  trivial
theorem fillA : PySem.Challenge.rw_rl0017_01 = PySem.Challenge.rw_rl0017_01 ∧ hd.heap_39 = hd.heap_39 := by
  k_fill
  exact ⟨rfl, rfl⟩
section
variable {prog : Program} {w : World} {A : Around} {s : Shared} {E : Value → Shared → Prop} {K : Frag} {x C dx : Addr} {ox od : Obj} {name : Str} {v : Value}
theorem findObj_shadow {a g : Value} (hh : hasDictIn K C = true) (ha : findIn K (.ref C) name = some (some a)) (hg : specialIn K a "__get__" = some (some g)) (ht : takesIn K a = some false) (hl : lookIn name od = some (some v)) :
    findObj K C (some od) name = some (.value v) := by
  obtain ⟨cd, hc, hd⟩ := any_some hh
  unfold findObj
  rw [hc, Option.bind_some, ha, Option.bind_some]
  have ho : W.ownOf cd (some od) name = some (some v) := by unfold W.ownOf; rw [if_pos hd]; exact hl
  simp [hg, ht, ho]
theorem method_shadow {f : Addr} {pl : Sem Bool} {Q : Value × List Value → Shared → Prop} (X : K.In s.heap) (I : W.InstAt s.heap x ox C (some od)) (hdx : ox.dict = some dx) (hga : findIn K (.ref C) "__getattribute__" = some (some (.builtin "object.__getattribute__"))) (hk : findIn K (.ref C) "__getattr__" = some none)
    (hf : findIn K (.ref C) name = some (some (.ref f))) (ht : typeIn K (.ref f) = some (.type "function")) (hl : lookIn name od = some (some v)) (h : wpAny (model prog w) A (getAttr (.ref x) name) (fun v => Q (v, [])) E s) :
    wpAny (model prog w) A (getMethod (.ref x) name pl) Q E s := by
  have hcan := PySem.F.canon_object_ga
  unfold getMethod specialOf
  refine wpAny_bind (wpAny_bind (I.type.here ((looks_findIn X hga).here ?_)))
  dsimp only
  rw [hcan, if_neg (by decide)]
  refine wpAny_bind (wpAny_bind (I.type.here ((looks_findIn X hk).here ?_)))
  refine wpAny_bind (wpAny_bind (I.type.here ((looks_findIn X hf).here (wpAny_bind ((looks_typeIn X ht).here ?_)))))
  rw [if_neg (by decide +kernel)]
  refine wpAny_bind (wpAny_loadPart I.at_ ?_)
  have hd := I.dict
  rw [hdx] at hd ⊢
  refine wpAny_bind (wpAny_bind (wpAny_loadPart hd ?_))
  rw [nsLook_of hl]
  refine wpAny_pure ?_
  show wpAny _ _ (do let a ← getAttr (.ref x) name; pure (a, [])) _ _ _
  exact wpAny_bind (wpAny_mono h (fun _ _ q => wpAny_pure q) fun _ _ q => q)
end
/-- σ holds, at a, a rule for the names that begin with front, with its verdict b -/
def RuleG (w : World) (σ : Addr → Obj → Prop) (a : Addr) (front : Str) (b : Bool) : Prop :=
  ∃ ox dx od f, σ a ox ∧ ox.cls = .ref 59 ∧ notCls ox = true ∧ ox.dict = some dx ∧ σ dx od ∧ lookIn (Str.ofString "applies_to") od = some (some (.ref f)) ∧ lookIn (Str.ofString "allowance") od = some (some (.bool b)) ∧ LamG w σ f front
theorem instAt_keeps {h h' : Heap} {x C : Addr} {ox : Obj} {od : Option Obj} (I : W.InstAt h x ox C od) (k : ∀ b o, h.get? b = some o → h'.get? b = some o) : W.InstAt h' x ox C od := by
  obtain ⟨h1, h2, h3, h4⟩ := I
  refine ⟨k _ _ h1, h2, h3, ?_⟩
  cases e : ox.dict <;> cases od <;> rw [e] at h4 <;> first | exact h4 | exact k _ _ h4
theorem inst_mk {h : Heap} {x C dx : Addr} {ox od : Obj} (h1 : h.get? x = some ox) (h2 : ox.cls = .ref C) (h3 : notCls ox = true) (h4 : ox.dict = some dx) (h5 : h.get? dx = some od) : W.InstAt h x ox C (some od) :=
  ⟨h1, h2, h3, by rw [h4]; exact h5⟩
theorem RuleG.mono {w : World} {σ τ : Addr → Obj → Prop} {a : Addr} {front : Str} {b : Bool} (x : RuleG w σ a front b) (k : ∀ b o, σ b o → τ b o) : RuleG w τ a front b := by
  obtain ⟨ox, dx, od, f, h1, h2, h3, h4, h5, h6, h7, h8⟩ := x
  exact ⟨ox, dx, od, f, k _ _ h1, h2, h3, h4, k _ _ h5, h6, h7, h8.mono k⟩
/-- these items are rules, one for one -/
def RulesG (w : World) (σ : Addr → Obj → Prop) (items : List Value) (rules : List (Str × Bool)) : Prop :=
  Paired (fun (v : Value) (p : Str × Bool) => ∃ a, v = .ref a ∧ RuleG w σ a p.1 p.2) items rules
theorem RulesG.mono {w : World} {σ τ : Addr → Obj → Prop} {items : List Value} {rules : List (Str × Bool)} (x : RulesG w σ items rules) (k : ∀ b o, σ b o → τ b o) : RulesG w τ items rules :=
  Paired.mono (fun _ _ ⟨a, e, h⟩ => ⟨a, e, h.mono k⟩) x
/-- σ holds, at r, a record with these rules -/
def RecG (w : World) (σ : Addr → Obj → Prop) (r : Addr) (rules : List (Str × Bool)) : Prop :=
  ∃ (ox : Obj) (dx : Addr) (od : Obj) (l : Addr) (ol : Obj) (items : Array Value) (n : Nat), σ r ox ∧ ox.cls = .ref 59 ∧ notCls ox = true ∧ ox.dict = some dx ∧ σ dx od ∧ lookIn (Str.ofString "rulelines") od = some (some (.ref l)) ∧ lookIn (Str.ofString "allowance") od = some none ∧
    σ l ol ∧ ol.cls = .type "list" ∧ ol.data = .seq items n ∧ RulesG w σ items.toList rules
theorem RecG.mono {w : World} {σ τ : Addr → Obj → Prop} {r : Addr} {rules : List (Str × Bool)} (x : RecG w σ r rules) (k : ∀ b o, σ b o → τ b o) : RecG w τ r rules := by
  obtain ⟨ox, dx, od, l, ol, items, n, h1, h2, h3, h4, h5, h6, h7, h8, h9, h10, h11⟩ := x
  exact ⟨ox, dx, od, l, ol, items, n, k _ _ h1, h2, h3, h4, k _ _ h5, h6, h7, k _ _ h8, h9, h10, h11.mono k⟩
theorem paired_get {α β : Type} {F : α → β → Prop} : ∀ {l₁ : List α} {l₂ : List β}, Paired F l₁ l₂ → ∀ (i : Nat) (b : β), l₂[i]? = some b → ∃ a, l₁[i]? = some a ∧ F a b
  | _, _, .nil, i, b, h => by simp at h
  | _, _, .cons h t, 0, b, e => by simp at e; subst e; exact ⟨_, rfl, h⟩
  | _, _, .cons h t, i + 1, b, e => by simp at e ⊢; exact paired_get t i b e
/-- what the loop makes of a rule -/
def aStep (name : Str) (st : Int × Bool) (r : Str × Bool) : Int × Bool :=
  if meets name r.1 = 0 then st else if st.1 < meets name r.1 then (meets name r.1, r.2) else if meets name r.1 = st.1 ∧ st.2 = false then (st.1, r.2) else st
def allowF (name : Str) (rules : List (Str × Bool)) : Bool := (rules.foldl (aStep name) (-1, true)).2
theorem aStep_take {name : Str} {rules : List (Str × Bool)} {i : Nat} {p : Str × Bool} (h : rules[i]? = some p) : (rules.take (i + 1)).foldl (aStep name) (-1, true) = aStep name ((rules.take i).foldl (aStep name) (-1, true)) p := by
  rw [List.take_add_one, h]; simp
section
variable {prog : Program} {w : World} {A : Around} {s : Shared} {E : Value → Shared → Prop} {Q : Value → Shared → Prop}
theorem callWith_fn {M : Model} {env : Env} {pos : Pos} {f : Addr} {first : List Value} {e : Expr} {rest : List Expr}
    (h : wpAny M A (spliced (backTo pos (starEach (e :: rest) env))) (fun vs s₁ => (∃ o fd, s₁.heap.get? f = some o ∧ o.data = .func fd) ∧ wpAny M A (call (.ref f) (first ++ vs)) Q E s₁) E s)
    (he : starEach (e :: rest) env = (false, eval e env) :: starEach rest env := by rfl) (hplain : (backTo pos (starEach rest env)).any (·.1) = false := by rfl) :
    wpAny M A (callWith pos (.ref f) first (backTo pos (starEach (e :: rest) env)) []) Q E s := by
  rw [he] at h ⊢
  refine callWith_of (P := fun h => ∃ o fd, h.get? f = some o ∧ o.data = .func fd) (by show ((false || (backTo pos (starEach rest env)).any (·.1)) || false) = false; rw [hplain]; rfl) ?_ (evalArgs_plain h)
  rintro h ⟨o, fd, ho, hd⟩
  refine ⟨.frame, .inl rfl, (Looks.ld (part := none) ho).andThen ?_⟩
  rw [hd]
  exact .now
theorem rule_applies {a : Addr} {front : Str} {b : Bool} {pl : Sem Bool} {Q : Value × List Value → Shared → Prop} (x : RuleG w (inH s.heap) a front b) (g : Gd w s.heap)
    (h : ∀ f, LamG w (inH s.heap) f front → Q (.ref f, []) { s with toks := s.toks + 1 }) : wpAny (model prog w) A (getMethod (.ref a) (Str.ofString "applies_to") pl) Q E s := by
  obtain ⟨ox, dx, od, f, k1, k2, k3, h2, k4, h3, h4, h5⟩ := x
  have h1 := inst_mk k1 k2 k3 h2 k4
  have X := g.X
  refine' method_shadow X h1 h2 ?k1 ?k2 ?k3 ?k4 h3 ?_
  case k1 => k_is
  case k2 => k_is
  case k3 => k_is
  case k4 => k_is
  refine' get_value X h1 ?k1 (findObj_shadow ?k2 ?k3 ?k4 ?k5 h3) rfl (h f h5)
  case k1 => k_is
  case k2 => k_is
  case k3 => k_is
  case k4 => k_is
  case k5 => k_is
theorem rule_allows {a : Addr} {front : Str} {b : Bool} {ex : Bool} (x : RuleG w (inH s.heap) a front b) (g : Gd w s.heap)
    (h : Q (.bool b) { s with toks := s.toks + 1 }) : wpAny (model prog w) A (getAttr (.ref a) (Str.ofString "allowance") ex) Q E s := by
  obtain ⟨ox, dx, od, f, k1, k2, k3, h2, k4, h3, h4, h5⟩ := x
  have h1 := inst_mk k1 k2 k3 h2 k4
  have X := g.X
  refine' get_value X h1 ?k1 (findObj_shadow ?k2 ?k3 ?k4 ?k5 h4) rfl h
  case k1 => k_is
  case k2 => k_is
  case k3 => k_is
  case k4 => k_is
  case k5 => k_is
theorem rec_lines {h₀ : Heap} {r : Addr} {rules : List (Str × Bool)} {ex : Bool} (x : RecG w (inH h₀) r rules) (k : h₀.StaysIn s.heap) (g : Gd w s.heap)
    (h : ∀ (l : Addr) (items : Array Value), h₀.IsList l items → RulesG w (inH h₀) items.toList rules → Q (.ref l) { s with toks := s.toks + 1 }) :
    wpAny (model prog w) A (getAttr (.ref r) (Str.ofString "rulelines") ex) Q E s := by
  obtain ⟨ox, dx, od, l, ol, items, n, k1, k2, k3, k4, k5, h3, k7, k8, k9, k10, k11⟩ := x
  have h1 := inst_mk k1 k2 k3 k4 k5
  have X := g.X
  refine' get_value X (instAt_keeps h1 k) ?k1 (findObj_own ?k2 ?k3 ?k4 h3) rfl (h l items ⟨ol, k8, k9, n, k10⟩ k11)
  case k1 => k_is
  case k2 => k_is
  case k3 => k_is
  case k4 => k_is
theorem allow_spec {r : Addr} {rules : List (Str × Bool)} {y : Str} {t : Tok} (x : RecG w (inH s.heap) r rules) (hlen : ∀ p ∈ rules, p.1.length ≤ 100) (g : Gd w s.heap) (hd : A.depth + 1 < recursionLimit) (hh : A.handled = none)
    (ret : ∀ h' tk, s.heap.StaysIn h' → Q (.bool (allowF y rules)) { s with heap := h', toks := tk }) : wpAny (model prog w) A (call (.ref 56) [.ref r, .str y t]) Q E s := by
  refine' enter (binds := [(Str.ofString "self", .ref r), (Str.ofString "filename", .str y t)]) g ?ho ?hcd (Nat.lt_of_succ_lt hd) ?hb ?hl ?hce ?hco ?hg ?hk ?_
  case ho => k_is
  case hcd => k_is
  case hb => exact rfl
  case hl => exact locs rfl
  case hce => decide
  case hco => exact rfl
  case hg => exact rfl
  case hk => exact rfl
  intro L h₁ tk F
  have X := g.X
  obtain ⟨lo, mn, mg, mb, T⟩ := g.T
  have N : News s.heap L h₁ [] := News.nil
  iterate 10 walk1
  rename_i hF hN
  walk1
  refine For_invV s.heap rfl rfl ?_
  iterate 2 walk1
  refine rec_lines x hF.keep (g.keeps hF.keep) ?_
  intro l items hl hrs
  have hsz : items.size = rules.length := by simpa using hrs.length
  refine loop_list (A := A.deeper _) hh hl hF hN (fun i m news => news = [] ∧ ∃ t' u1 u2, m = fun z => if z = Str.ofString "line" then u1 else if z = Str.ofString "m" then u2 else if z = Str.ofString "best_match" then some (.int ((rules.take i).foldl (aStep y) (-1, true)).1 t') else if z = Str.ofString "allowance" then some (.bool ((rules.take i).foldl (aStep y) (-1, true)).2) else [(Str.ofString "self", Value.ref r), (Str.ofString "filename", .str y t)].reverse.lookup z) ⟨rfl, ?_⟩ ?_ ?_
  · exact ⟨_, _, _, map4 rfl rfl rfl rfl fun z h1 h2 h3 h4 => by simp only [if_neg h3, if_neg h4]⟩
  · rintro i v m₁ news₁ h tk own hv ⟨rfl, t', u1, u2, rfl⟩ _ hI F₁ N₁
    have hi : i < rules.length := by
      rw [← hsz]
      exact (Array.getElem?_eq_some_iff.mp hv).1
    obtain ⟨v', ha, a, rfl, hr⟩ := paired_get hrs i rules[i] (by simp [hi])
    have ha' : items[i]? = some (.ref a) := by simpa using ha
    rw [ha'] at hv
    cases hv
    have g₁ := g.keeps F₁.keep
    have hF2 := F₁.keep
    iterate 4 walk1
    refine rule_applies (hr.mono F₁.keep) g₁ ?_
    intro f hf
    refine callWith_fn ?_
    iterate 3 walk1
    refine ⟨?_, ?_⟩
    · obtain ⟨c, oc, tf, ps, bd, sc, pos, pm, c', ctv, o2, vs2, t2, k1, k2, k3⟩ := id hf
      exact ⟨_, _, k2, rfl⟩
    refine lam_spec hf (hlen _ (List.getElem_mem hi)) g₁ hd ?_
    intro tm h₂ tk₂ k₂
    have F₂ := fr_kept F₁ k₂
    have N₂ := news_kept N₁ k₂
    clear F₁ N₁
    have hst := aStep_take (name := y) (p := rules[i]) (by simp [hi] : rules[i]? = some rules[i])
    generalize (rules.take (i + 1)).foldl (aStep y) (-1, true) = st' at hst
    generalize (rules.take i).foldl (aStep y) (-1, true) = st at F₂ hst
    subst hst
    unfold aStep
    obtain ⟨best, alw⟩ := st
    generalize hM : meets y rules[i].1 = M at F₂
    dsimp only at F₂ ⊢
    iterate 7 walk1
    split
    · rename_i hm0
      have hM0 : ¬ M = 0 := by simpa using hm0
      rw [if_neg hM0]
      iterate 7 walk1
      split
      · rename_i hlt
        rw [if_pos (of_decide_eq_true hlt)]
        iterate 8 walk1
        (with_reducible rename Fr _ _ _ _ => F₃)
        refine rule_allows (hr.mono F₃.keep) (g.keeps F₃.keep) ?_
        iterate 4 walk1
        refine TurnEnd.next (news₂ := []) (by assumption) (by assumption) (fun _ h => nomatch h) ?_
        exact ⟨rfl, _, _, _, map4 rfl rfl rfl rfl fun z h1 h2 h3 h4 => by simp only [if_neg h1, if_neg h2, if_neg h3, if_neg h4]⟩
      · rename_i hlt
        rw [if_neg (fun h => hlt (decide_eq_true h))]
        iterate 8 walk1
        by_cases heq' : M = best
        · refine W.ite_pos (by rw [heq', beq_self_eq_true]) ?_
          iterate 4 walk1
          cases alw
          · rw [if_pos (show M = best ∧ false = false from ⟨heq', rfl⟩)]
            walk1
            refine W.ite_pos rfl ?_
            iterate 6 walk1
            (with_reducible rename Fr _ _ _ _ => F₃)
            refine rule_allows (hr.mono F₃.keep) (g.keeps F₃.keep) ?_
            iterate 5 walk1
            refine TurnEnd.next (news₂ := []) (by assumption) (by assumption) (fun _ h => nomatch h) ?_
            exact ⟨rfl, _, _, _, map4 rfl rfl rfl rfl fun z h1 h2 h3 h4 => by simp only [if_neg h1, if_neg h2, if_neg h3, if_neg h4]⟩
          · rw [if_neg (show ¬ (M = best ∧ true = false) from fun h => Bool.noConfusion h.2)]
            walk1
            refine W.ite_neg (fun h => nomatch h) ?_
            refine W.ite_neg (fun h => nomatch h) ?_
            iterate 4 walk1
            refine TurnEnd.next (news₂ := []) (by assumption) (by assumption) (fun _ h => nomatch h) ?_
            exact ⟨rfl, _, _, _, map4 rfl rfl rfl rfl fun z h1 h2 h3 h4 => by simp only [if_neg h1, if_neg h2, if_neg h3, if_neg h4]⟩
        · refine W.ite_neg (fun h => heq' (beq_iff_eq.mp h)) ?_
          rw [if_neg (show ¬ (M = best ∧ alw = false) from fun h => heq' h.1)]
          iterate 5 walk1
          refine TurnEnd.next (news₂ := []) (by assumption) (by assumption) (fun _ h => nomatch h) ?_
          exact ⟨rfl, _, _, _, map4 rfl rfl rfl rfl fun z h1 h2 h3 h4 => by simp only [if_neg h1, if_neg h2, if_neg h3, if_neg h4]⟩
    · rename_i hm0
      have hM0 : M = 0 := by simpa using hm0
      rw [if_pos hM0]
      iterate 2 walk1
      refine TurnEnd.next (news₂ := []) (by assumption) (by assumption) (fun _ h => nomatch h) ?_
      exact ⟨rfl, _, _, _, map4 rfl rfl rfl rfl fun z h1 h2 h3 h4 => by simp only [if_neg h1, if_neg h2, if_neg h3, if_neg h4]⟩
  · rintro h' tk m' news' F' N' ⟨rfl, t', u1, u2, rfl⟩
    have e0 : rules.take items.size = rules := by rw [hsz, List.take_length]
    rw [e0] at F'
    iterate 3 walk1
    exact ret _ _ F'.keep
end
end Mine

end
section
open PySem PySem.W PySem.Spec PySem.Calls PyProof.Rows
set_option Elab.async false
set_option maxRecDepth 100000
set_option maxHeartbeats 4000000
namespace Mine
theorem offR0 : True := by
  w_top off
  trivial
section
variable {prog : Program} {w : World} {A : Around} {s : Shared} {R : Result → Shared → Prop}
/-- a call of a plain def, some objects (hid) taken as its own to change -/
theorem codeEnter {hid : List (Addr × Obj)} {name qual : Str} {params : Arguments} {body : List Stmt} {scope : Scope} {dV kV doc pm cdv ct oc : Value} {an od : Option Addr} {osl : Array (Option Value)} {f : Addr} {vs : List Value} {binds : List (Str × Value)}
    (hhid : ∀ p ∈ hid, s.heap.get? p.1 = some p.2)
    (g : Gd w s.heap) (ho : (hd.heap_39 w.params).lookup f = some ⟨oc, od, .func (fnOf name qual params body scope dV kV doc pm an cdv ct), osl⟩) (hcd : codeIn (hd.heap_39 w.params) cdv qual = true) (hroom : A.depth < recursionLimit)
    (hbind : bindArgs (fnOf name qual params body scope dV kV doc pm an cdv ct) ⟨vs, []⟩ = pure binds) (hloc : ∀ y ∈ binds, scope.names.lookup y.1 = some .local)
    (hcell : ∀ x ∈ scope.names, x.2 ≠ .cell) (hco : scope.isCoroutine = false) (hgen : scope.isGenerator = false) (hk : scope.kind = .function)
    (h : ∀ L h₁ tk, (∀ p ∈ hid, @LT.lt Nat _ p.1 L) → Fr (hideAll s.heap (hid.map (·.1))) L h₁ (fun y => binds.reverse.lookup y) → News (hideAll s.heap (hid.map (·.1))) L h₁ hid →
      wpAny (model prog w) (A.deeper (envOf qual scope L f cdv)) (execs body (envOf qual scope L f cdv)) (fun fl s' => R (.ok (.ret (match fl with | .ret v => v | _ => .none))) s') (fun _ _ => False)
        { s with heap := h₁, toks := tk }) : codeAny (model prog w) A (.call (.ref f) ⟨vs, []⟩) R s := by
  obtain ⟨lo, mn, mg, mb, T⟩ := g.T
  refine codeAny_call_def (fd := fnOf name qual params body scope dV kV doc pm an cdv ct) (body := body) (binds := binds) hroom (g.X _ _ ho) rfl T.nolimit (codeRec_of g.X hcd) rfl (BindsTo.of_eq hbind) hcell hloc (fun h₁ hns hk₁ => ?_) hco hgen hk
  refine wpAny_mono (h _ h₁ _ (fun p hp => Heap.lt_size (hhid p hp)) ⟨hns, fun b o e => hk₁ b o (of_hideAll _ e), Nat.le_of_eq (hideAll_size _ _)⟩ (fun p hp => ⟨hk₁ _ _ (hhid p hp), Nat.ne_of_lt (Heap.lt_size (hhid p hp)), hideAll_none _ (List.mem_map_of_mem hp)⟩)) (fun _ _ q => q) fun _ _ q => q.elim
/-- the same for a def with cells -/
theorem codeEnterC {hid : List (Addr × Obj)} {name qual : Str} {params : Arguments} {body : List Stmt} {scope : Scope} {dV kV doc pm cdv ct oc : Value} {an od : Option Addr} {osl : Array (Option Value)} {f : Addr} {vs : List Value} {binds : List (Str × Value)}
    (hhid : ∀ p ∈ hid, s.heap.get? p.1 = some p.2)
    (g : Gd w s.heap) (ho : (hd.heap_39 w.params).lookup f = some ⟨oc, od, .func (fnOf name qual params body scope dV kV doc pm an cdv ct), osl⟩) (hcd : codeIn (hd.heap_39 w.params) cdv qual = true) (hroom : A.depth < recursionLimit)
    (hbind : bindArgs (fnOf name qual params body scope dV kV doc pm an cdv ct) ⟨vs, []⟩ = pure binds)
    (hkind : (binds.all fun y => scope.names.lookup y.1 == some .local || scope.names.lookup y.1 == some .cell) = true)
    (hnd : ((cellsFrom 0 scope.names []).map (·.1)).Nodup) (hco : scope.isCoroutine = false) (hgen : scope.isGenerator = false) (hk : scope.kind = .function)
    (h : ∀ L h₁ tk cells, (∀ p ∈ hid, @LT.lt Nat _ p.1 L) → Fr (hideAll s.heap (hid.map (·.1))) L h₁ (bindL (envOfC qual scope L f cdv).kindOf binds fun _ => none) → News (hideAll s.heap (hid.map (·.1))) L h₁ (cells ++ hid) →
      CellsAre (bindC (envOfC qual scope L f cdv).kindOf binds fun _ => none) (cellsFrom (L + 1) scope.names []) cells →
      wpAny (model prog w) (A.deeper (envOfC qual scope L f cdv)) (execs body (envOfC qual scope L f cdv)) (fun fl s' => R (.ok (.ret (match fl with | .ret v => v | _ => .none))) s') (fun _ _ => False)
        { s with heap := h₁, toks := tk }) : codeAny (model prog w) A (.call (.ref f) ⟨vs, []⟩) R s := by
  obtain ⟨lo, mn, mg, mb, T⟩ := g.T
  refine codeAny_call_function hroom (g.X _ _ ho) rfl hco hgen rfl (codeRec_of g.X hcd) ((BindsTo.of_eq hbind) _ _ _ _ ?_)
  refine wpAny_newFunctionEnv_cells hk (kindsX hkind _) fun env' he s' x => ?_
  subst he
  refine ⟨(T.nolimit).keeps x.toInCall.keep, codeAny_func ?_⟩
  obtain ⟨h₁, tk, rfl, _⟩ := x.done
  have hk₁ := x.toInCall.keep
  obtain ⟨cells, NC, Y⟩ := Cl.news (h₀ := s.heap) (Nat.le_refl _) fun n c hm => ⟨x.cell n c (lookup_of_mem_nodup (cellsFrom_names scope.names 0 (s.heap.objs.size + 1) [] [] rfl ▸ hnd) hm), x.above n c hm⟩
  refine wpAny_mono (h s.heap.objs.size h₁ tk cells (fun p hp => Heap.lt_size (hhid p hp)) ⟨x.toInCall.ns, fun b o e => hk₁ b o (of_hideAll _ e), Nat.le_of_eq (hideAll_size _ _)⟩ (fun p hp => ?_) Y) (fun _ _ q => q) fun _ _ q => q.elim
  rcases List.mem_append.mp hp with hp | hp
  · refine ⟨(NC p hp).1, (NC p hp).2.1, ?_⟩
    cases q : (hideAll s.heap (hid.map (·.1))).get? p.1 with
    | none => rfl
    | some o => have := of_hideAll _ q; rw [(NC p hp).2.2] at this; cases this
  · exact ⟨hk₁ _ _ (hhid p hp), Nat.ne_of_lt (Heap.lt_size (hhid p hp)), hideAll_none _ (List.mem_map_of_mem hp)⟩
end
/-- back from a call that took hid as its own -/
theorem back_in {h₀ h h' : Heap} {L L2 : Addr} {m m2 : Str → Option Value} {hid news new : List (Addr × Obj)} (F : Fr h₀ L h m) (N : News h₀ L h (hid ++ news)) (hdis : ∀ p ∈ news, p.1 ∉ hid.map (·.1))
    (F2 : Fr (hideAll h (hid.map (·.1))) L2 h' m2) (N2 : News (hideAll h (hid.map (·.1))) L2 h' new) : Fr h₀ L h' m ∧ News h₀ L h' (new ++ news) := by
  have nh : ∀ b o, h₀.get? b = some o → b ∉ hid.map (·.1) := fun b o e q => by
    obtain ⟨p, hp, rfl⟩ := List.mem_map.mp q
    rw [(N p (List.mem_append_left _ hp)).2.2] at e; cases e
  obtain ⟨oL, es, ep, hL, hLd, hLk, hLf⟩ := F.ns
  have nL : L ∉ hid.map (·.1) := fun q => by
    obtain ⟨p, hp, e⟩ := List.mem_map.mp q
    exact (N p (List.mem_append_left _ hp)).2.1 e
  have hLg := hideAll_get (hid.map (·.1)) hL nL
  refine ⟨⟨⟨oL, es, ep, F2.keep L oL hLg, hLd, hLk, hLf⟩, fun b o e => F2.keep b o (hideAll_get _ (F.keep b o e) (nh b o e)), F.above⟩, fun p hp => ?_⟩
  rcases List.mem_append.mp hp with hp | hp
  · refine ⟨(N2 p hp).1, fun q => ?_, ?_⟩
    · have := (N2 p hp).2.2; rw [q, hLg] at this; cases this
    · cases q : h₀.get? p.1 with
      | none => rfl
      | some o => have := (N2 p hp).2.2; rw [hideAll_get _ (F.keep _ _ q) (nh _ _ q)] at this; cases this
  · have n := N p (List.mem_append_right _ hp)
    exact ⟨F2.keep _ _ (hideAll_get _ n.1 (hdis p hp)), n.2⟩
end Mine

end
section
open PySem PySem.W PySem.Spec PySem.Calls PyProof.Rows
set_option Elab.async false
set_option maxRecDepth 100000
set_option maxHeartbeats 4000000
namespace Mine
theorem offR1 : True := by
  w_top off
  trivial
theorem fillR : PySem.Challenge.rw_rl0017_01 = PySem.Challenge.rw_rl0017_01 ∧ hd.heap_39 = hd.heap_39 := by
  k_fill
  exact ⟨rfl, rfl⟩
theorem Gd.hide {w : World} {h₀ h : Heap} {as : List Addr} (g : Gd w h₀) (k : h₀.StaysIn h) (n : ∀ a ∈ as, h₀.get? a = none) : Gd w (hideAll h as) := by
  obtain ⟨G, X, T, C, n0, st⟩ := g
  refine ⟨G, X, T, C, n0, fun b o e => hideAll_get _ (k b o (st b o e)) fun q => ?_⟩
  have := st b o e
  rw [n b q] at this; cases this
/-- the four fields that Entry's __init__ lays -/
def es4 (w : World) (l1 l2 : Addr) (t1 t2 t3 t4 : Tok) : List DictEntry :=
  [⟨PyData.keyHash w.params (Str.ofString "useragents"), .str (Str.ofString "useragents") t1, .ref l1⟩, ⟨PyData.keyHash w.params (Str.ofString "rulelines"), .str (Str.ofString "rulelines") t2, .ref l2⟩,
   ⟨PyData.keyHash w.params (Str.ofString "delay"), .str (Str.ofString "delay") t3, .none⟩, ⟨PyData.keyHash w.params (Str.ofString "req_rate"), .str (Str.ofString "req_rate") t4, .none⟩]
section
variable {prog : Program} {w : World} {A : Around} {s : Shared} {E : Value → Shared → Prop} {Q : Value → Shared → Prop} {h₀ : Heap} {L : Addr} {m : Str → Option Value} {news : List (Addr × Obj)}
theorem entry_spec (g₀ : Gd w h₀) (F : Fr h₀ L s.heap m) (N : News h₀ L s.heap news) (hd : A.depth + 1 < recursionLimit)
    (ret : ∀ x dx l1 l2 t1 t2 t3 t4 h' tk, Fr h₀ L h' m → News h₀ L h' ((l2, W.listOf #[] 0) :: (l1, W.listOf #[] 0) :: (x, instObj 59 dx) :: (dx, dictOf (es4 w l1 l2 t1 t2 t3 t4) 4) :: news) → (∀ p ∈ news, @LT.lt Nat _ p.1 dx) → @LT.lt Nat _ dx x → @LT.lt Nat _ x l1 → @LT.lt Nat _ l1 l2 →
      Q (.ref x) { s with heap := h', toks := tk }) : wpAny (model prog w) A (call (.ref 59) []) Q E s := by
  have g := g₀.keeps F.keep
  have X := g.X
  refine wpAny_call ?_
  refine' make_K F N X ?k1 ?k2 ?k3 ?_
  case k1 => k_is
  case k2 => k_is
  case k3 => k_is
  intro x dx h' F' N' l1 l2
  refine' codeEnter (hid := [(x, instObj 59 dx), (dx, emptyDict)]) (binds := [(Str.ofString "self", .ref x)]) ?kh (g₀.keeps F'.keep) ?ho ?hcd ?hr ?hb ?hl ?hce ?hco ?hg ?hk ?_
  case kh => 
    intro p hp
    exact (N' p (by simp at hp ⊢; rcases hp with rfl | rfl <;> simp)).1
  case ho => k_is
  case hcd => k_is
  case hr => exact hd
  case hb => exact rfl
  case hl => exact locs rfl
  case hce => decide
  case hco => exact rfl
  case hg => exact rfl
  case hk => exact rfl
  intro L2 h₁ tk hlt F2 N2
  replace l2 : @LT.lt Nat _ dx x := l2
  have g2 : Gd w (hideAll h' ([(x, instObj 59 dx), (dx, emptyDict)].map (·.1))) := g₀.hide F'.keep fun a ha => by
    obtain ⟨p, hp, rfl⟩ := List.mem_map.mp ha
    exact (N' p (by simp at hp ⊢; rcases hp with rfl | rfl <;> simp)).2.2
  clear X
  have X := g2.X
  obtain ⟨lo, mn, mg, mb, T⟩ := g2.T
  iterate 27 walk1
  rename_i F3 N3
  refine ⟨rfl, ?_⟩
  obtain ⟨F4, N4⟩ := back_in (hid := [(x, instObj 59 dx), (dx, emptyDict)]) F' N' (fun p hp q => by
    have h1 : @LT.lt Nat _ p.1 dx := l1 p hp
    rcases List.mem_cons.mp q with e | q
    · rw [e] at h1; dsimp only at h1; omega
    · rcases List.mem_cons.mp q with e | q
      · rw [e] at h1; dsimp only at h1; omega
      · cases q) F3 N3
  exact ret x dx _ _ _ _ _ _ _ _ F4 N4 l1 l2 (by omega) (by omega)
end
end Mine

end
section
open PySem PySem.W PySem.Spec PySem.Calls PyProof.Rows
set_option Elab.async false
set_option maxRecDepth 100000
set_option maxHeartbeats 4000000
namespace Mine
theorem offR2 : True := by
  w_top off
  trivial
theorem fillR2 : PySem.Challenge.rw_rl0017_01 = PySem.Challenge.rw_rl0017_01 ∧ hd.heap_39 = hd.heap_39 := by
  k_fill
  exact ⟨rfl, rfl⟩
theorem Gd.C {w : World} {h : Heap} (g : Gd w h) : CodeHd h 74 70 := by
  obtain ⟨G, X, T, C, n, st⟩ := g
  exact C.keeps st
/-- the table of _law_rule's code: empty, or it holds the lambda's code -/
def TabG (w : World) (σ : Addr → Obj → Prop) (ps : Array Value) : Prop :=
  ps = #[] ∨ ∃ (q : Arguments × Expr × Scope × Pos) (c' : Addr) (o2 : Obj) (vs : Array Value) (t : Tok), lamOf ((hd.heap_39 w.params).lookup 75) = some q ∧ ps = #[rawInt q.2.2.2.line, rawInt q.2.2.2.col, .ref c'] ∧ c' ≠ 70 ∧
    σ c' o2 ∧ o2.data = .fields vs ∧ vs[1]? = some (.str lamQual t)
theorem TabG.mono {w : World} {σ τ : Addr → Obj → Prop} {ps : Array Value} (x : TabG w σ ps) (k : ∀ b o, σ b o → τ b o) : TabG w τ ps := by
  rcases x with h | ⟨q, c', o2, vs, t, h1, h2, h3, h4, h5⟩
  · exact .inl h
  · exact .inr ⟨q, c', o2, vs, t, h1, h2, h3, k _ _ h4, h5⟩
theorem pack4 {h : Heap} {n : Nat} {a1 a2 a3 a4 : Addr} {o1 o2 o3 o4 : Obj} (e1 : h.get? a1 = some o1) (e2 : h.get? a2 = some o2) (e3 : h.get? a3 = some o3) (e4 : h.get? a4 = some o4)
    (n1 : @LE.le Nat _ n a1) (n2 : @LE.le Nat _ n a2) (n3 : @LE.le Nat _ n a3) (n4 : @LE.le Nat _ n a4) : ∀ p ∈ [(a1, o1), (a2, o2), (a3, o3), (a4, o4)], h.get? p.1 = some p.2 ∧ @LE.le Nat _ n p.1 := by
  intro p hp
  simp only [List.mem_cons, List.not_mem_nil, or_false] at hp
  rcases hp with rfl | rfl | rfl | rfl
  · exact ⟨e1, n1⟩
  · exact ⟨e2, n2⟩
  · exact ⟨e3, n3⟩
  · exact ⟨e4, n4⟩
theorem pack5 {h : Heap} {n : Nat} {a1 a2 a3 a4 a5 : Addr} {o1 o2 o3 o4 o5 : Obj} (e1 : h.get? a1 = some o1) (e2 : h.get? a2 = some o2) (e3 : h.get? a3 = some o3) (e4 : h.get? a4 = some o4) (e5 : h.get? a5 = some o5)
    (n1 : @LE.le Nat _ n a1) (n2 : @LE.le Nat _ n a2) (n3 : @LE.le Nat _ n a3) (n4 : @LE.le Nat _ n a4) (n5 : @LE.le Nat _ n a5) : ∀ p ∈ [(a1, o1), (a2, o2), (a3, o3), (a4, o4), (a5, o5)], h.get? p.1 = some p.2 ∧ @LE.le Nat _ n p.1 := by
  intro p hp
  rcases List.mem_cons.mp hp with rfl | hp
  · exact ⟨e1, n1⟩
  · exact pack4 e2 e3 e4 e5 n2 n3 n4 n5 p hp
theorem lam_mk {w : World} {o : Obj} {r : Option (Arguments × Expr × Scope × Pos)} (e : (Mine.hd.heap_39 w.params).lookup 75 = some o) (h : lamOf (some o) = r) : lamOf ((Mine.hd.heap_39 w.params).lookup 75) = r := e ▸ h
section
variable {prog : Program} {w : World} {A : Around} {s : Shared} {E : Value → Shared → Prop} {Q : Value → Shared → Prop}
theorem rule_spec {front : Str} {b : Bool} {t : Tok} {ps : Array Value} {kn : List (Addr × Obj)} (g : Gd w s.heap) (hps : s.heap.get? 70 = some (tabObj ps)) (hP : TabG w (inL kn) ps) (hd : A.depth + 2 < recursionLimit) 
    (ret : ∀ x h' tk ps' nw, Heap.ExtBut 70 s.heap h' → h'.get? 70 = some (tabObj ps') → (∀ p ∈ nw, h'.get? p.1 = some p.2 ∧ @LE.le Nat _ s.heap.objs.size p.1) → TabG w (inL (nw ++ kn)) ps' → RuleG w (inL (nw ++ kn)) x front b → Q (.ref x) { s with heap := h', toks := tk }) :
    wpAny (model prog w) A (call (.ref 75) [.str front t, .bool b]) Q E s := by
  refine wpAny_call ?_
  refine' codeEnterC (hid := [(70, tabObj ps)]) (binds := [(Str.ofString "front", .str front t), (Str.ofString "verdict", .bool b)]) ?kh g ?ho ?hcd ?hr ?hb ?hki ?hnd ?hco ?hg ?hk ?_
  case kh => 
    intro p hp
    rw [List.mem_singleton.mp hp]; exact hps
  case ho => k_is
  case hcd => k_is
  case hr => omega
  case hb => exact rfl
  case hki => exact rfl
  case hnd => decide +kernel
  case hco => exact rfl
  case hg => exact rfl
  case hk => exact rfl
  intro L h₁ tk cells hlt F N Y
  obtain ⟨oc, rfl, hoc⟩ := CellsAre.one Y
  have hb : Heap.ExtBut 70 s.heap (hideAll s.heap ([(70, tabObj ps)].map (·.1))) := fun b o hb e => hideAll_get _ e (by simpa using hb)
  have gb := g.extBut hb
  have X := gb.X
  have C := gb.C
  have h70 : @LT.lt Nat _ 70 L := hlt _ (.head _)
  have hsL : @LE.le Nat _ s.heap.objs.size L := by have := F.above; rwa [hideAll_size] at this
  obtain ⟨lo, mn, mg, mb, T⟩ := gb.T
  rcases hP with rfl | ⟨q, c', o2, vs2, t2', hq, rfl, hc, ho2, hd2, hv2⟩
  · replace N : News _ L h₁ [(L + 1, oc), (70, tabObj #[])] := N
    clear Y
    iterate 5 walk1
    refine entry_spec gb F N hd ?_
    intro x dx l1 l2 t1 t2 t3 t4 h₂ tk₂ F₂ N₂ q1 q2 q3 q4
    have q5 : @LT.lt Nat _ (L + 1) dx := q1 _ (.head _)
    clear q1 F N
    iterate 14 walk1
    rename_i f' c' oc' vs' t' ct' ha tk' hd1 hd2 l3 l4 hb2 h' F' N'
    have e70 := N'.get (a := 70) (by k_mem)
    have hq := lam_mk (w := w) (by k_is) rfl
    have ex := N'.get (a := x) (by k_mem)
    have ed := N'.get (a := dx) (by k_mem)
    have ef := N'.get (a := f') (by k_mem)
    have ec := N'.get (a := c') (by k_mem)
    have el := N'.get (a := L + 1) (by k_mem)
    refine ret x h' _ _ _ (fun b o hb' e => F'.keep b o (hb b o hb' e)) e70 (pack5 ex ed ef ec el (by omega) (by omega) (by omega) (by omega) (by omega)) ?_ ?_
    · exact .inr ⟨_, c', oc', vs', t', hq, rfl, Nat.ne_of_gt l3.2.2.2.2.2, (List.Mem.tail _ (List.Mem.tail _ (List.Mem.tail _ (List.Mem.head _)))), hd1, hd2⟩
    · refine ⟨_, dx, _, f', (List.Mem.head _), rfl, rfl, rfl, (List.Mem.tail _ (List.Mem.head _)), rfl, rfl, ?_⟩
      exact ⟨L + 1, oc, t, _, _, _, _, _, c', ct', oc', vs', t', hq, (List.Mem.tail _ (List.Mem.tail _ (List.Mem.head _))), ⟨(List.Mem.tail _ (List.Mem.tail _ (List.Mem.tail _ (List.Mem.head _)))), hd1, hd2⟩, (List.Mem.tail _ (List.Mem.tail _ (List.Mem.tail _ (List.Mem.tail _ (List.Mem.head _))))), hoc⟩
  · replace hq := lam_is (by k_is) hq
    simp only [lamOf] at hq
    injection hq with hq
    subst hq
    dsimp only at N F hb gb X C T hps
    replace N : News _ L h₁ [(L + 1, oc), (70, tabObj _)] := N
    clear Y
    iterate 5 walk1
    refine entry_spec gb F N hd ?_
    intro x dx l1 l2 t1 t2 t3 t4 h₂ tk₂ F₂ N₂ q1 q2 q3 q4
    have q5 : @LT.lt Nat _ (L + 1) dx := q1 _ (.head _)
    clear q1 F N
    iterate 14 walk1
    rename_i f' ct' ha tk' l3 hb2 h' F' N'
    have e70 := N'.get (a := 70) (by k_mem)
    have hq := lam_mk (w := w) (by k_is) rfl
    have ex := N'.get (a := x) (by k_mem)
    have ed := N'.get (a := dx) (by k_mem)
    have ef := N'.get (a := f') (by k_mem)
    have el := N'.get (a := L + 1) (by k_mem)
    have hmem : (c', o2) ∈ kn := ho2
    refine ret x h' _ _ _ (fun b o hb' e => F'.keep b o (hb b o hb' e)) e70 (pack4 ex ed ef el (by omega) (by omega) (by omega) (by omega)) ?_ ?_
    · exact .inr ⟨_, c', o2, vs2, t2', hq, rfl, hc, List.mem_append_right _ hmem, hd2, hv2⟩
    · refine ⟨_, dx, _, f', (List.Mem.head _), rfl, rfl, rfl, (List.Mem.tail _ (List.Mem.head _)), rfl, rfl, ?_⟩
      exact ⟨L + 1, oc, t, _, _, _, _, _, c', ct', o2, vs2, t2', hq, (List.Mem.tail _ (List.Mem.tail _ (List.Mem.head _))), ⟨List.mem_append_right _ hmem, hd2, hv2⟩, (List.Mem.tail _ (List.Mem.tail _ (List.Mem.tail _ (List.Mem.head _)))), hoc⟩
end
end Mine

end
section
open PySem PySem.W PySem.Spec PySem.Calls PyProof.Rows
set_option Elab.async false
set_option maxRecDepth 100000
set_option maxHeartbeats 4000000
namespace Mine
theorem offC1 : True := by
  w_top off
  trivial
section
variable {prog : Program} {w : World} {A : Around} {s : Shared} {R : Result → Shared → Prop} {E : Value → Shared → Prop}
theorem compLoop_gen {elt : Expr} {gens : List Comprehension} {scope : Scope} {pos : Pos} {d : Nat} {x : Str} {px p : Pos} {acc : Value} {cenv : Env} {act : Sem Unit} {I : Addr} {fp wr : List Addr} {n : Nat} {P : Nat → Value → Prop} {St : Nat → Heap → Prop} {m : Str → Option Value} (W : Walks prog w A I fp wr n P St)
    (hturn : compTurn (.ListComp elt gens scope pos) d (.ref I) acc cenv = (standAt p >>= fun _ => pyNext (.ref I) >>= fun r => match r with
      | none => pure (.done .next)
      | some v => letOwnedTupleGo (.Name x px) (.ref I) v >>= fun _ => assign (.Name x px) cenv v >>= fun _ => act >>= fun _ => again (.compLoop (.ListComp elt gens scope pos) d (.ref I) acc cenv)))
    (hx : cenv.kindOf x = some .local) (hp : (cenv.scope.kind == .class || (cenv.scope.kind == .module && cenv.locals != cenv.globals)) = false) (hCf : cenv.locals ∉ fp)
    (J : Nat → Heap → Prop) (Mm : (Str → Option Value) → Prop)
    (hJ : ∀ i h h', J i h → (∀ b o, b ∉ wr → b ≠ cenv.locals → h.get? b = some o → h'.get? b = some o) → J i h')
    (hM : ∀ m v, Mm m → Mm (fun y => if y = x then some v else m y))
    (hst : St 0 s.heap) (hj : J 0 s.heap) (hn : s.heap.Ns cenv.locals m) (hm : Mm m)
    (step : ∀ i v h tk m₂, i < n → P i v → J i h → h.Ns cenv.locals m₂ → m₂ x = some v → Mm m₂ → St (i + 1) h →
      wpAny (model prog w) A act (fun _ s₃ => ∃ h' tk' m₃, s₃ = { s with heap := h', toks := tk' } ∧ h'.Ns cenv.locals m₃ ∧ Mm m₃ ∧ St (i + 1) h' ∧ J (i + 1) h') (fun _ _ => False) { s with heap := h, toks := tk })
    (hR : ∀ h' tk m', h'.Ns cenv.locals m' → Mm m' → J n h' → R (.ok .next) { s with heap := h', toks := tk }) :
    codeAny (model prog w) A (.compLoop (.ListComp elt gens scope pos) d (.ref I) acc cenv) R s := by
  have hCw : cenv.locals ∉ wr := fun h => hCf (W.sub _ h)
  refine codeAny_loop rfl (fun k s' => ∃ h' tk m' i, s' = { s with heap := h', toks := tk } ∧ St i h' ∧ h'.Ns cenv.locals m' ∧ Mm m' ∧ J i h' ∧ i ≤ n ∧ k = n + 1 - i) ?_ (n + 1)
    ⟨s.heap, s.toks, m, 0, rfl, hst, hn, hm, hj, Nat.zero_le _, rfl⟩
  rintro k s' ⟨h', tk, m', i, rfl, hst', hn', hm', hj', hi, rfl⟩
  show wpAny _ _ ((compTurn (.ListComp elt gens scope pos) d (.ref I) acc cenv).onRaise (fun x => do noteFrame x cenv; theTreesLotGoes x)) _ _ _
  refine wpAny_noted ?_
  rw [hturn]
  refine wpAny_bind (wpAny_standAt (wpAny_bind ?_))
  by_cases hlt : i < n
  · refine W.item i _ _ _ hlt hst' fun v h₁ tk₁ hPv hst₁ hk₁ => ?_
    dsimp only
    refine wpAny_bind (wpAny_of_eq (show letOwnedTupleGo (.Name x px) (.ref I) v = pure () from rfl) ?_)
    refine wpAny_bind (wpAny_assign_Name (wpAny_storeName_local hx (hn'.at' fun o e => hk₁ _ o hCw e) (fun h₂ hn₂ hs₂ => ?_) hp))
    have hst₂ : St (i + 1) h₂ := W.frame _ _ _ hst₁ fun b hb o e => hs₂.extBut b o (fun h => hCf (h ▸ hb)) e
    have hj₂ : J i h₂ := hJ i h' h₂ hj' fun b o hb hbC e => hs₂.extBut b o hbC (hk₁ b o hb e)
    refine wpAny_bind (wpAny_mono (step i v h₂ _ _ hlt hPv hj₂ hn₂ (by simp) (hM _ _ hm') hst₂) (fun _ s₃ q => ?_) fun _ _ q => q.elim)
    obtain ⟨h₃, tk₃, m₃, rfl, hn₃, hm₃, hst₃, hj₃⟩ := q
    exact wpAny_pure ⟨rfl, n + 1 - (i + 1), by omega, h₃, tk₃, m₃, i + 1, rfl, hst₃, hn₃, hm₃, hj₃, hlt, rfl⟩
  · have hin : i = n := by omega
    subst hin
    refine W.done _ _ _ hst' fun h₁ tk₁ hk₁ => ?_
    exact wpAny_pure (hR h₁ tk₁ m' (hn'.at' fun o e => hk₁ _ o hCw e) hm' (hJ _ h' h₁ hj' fun b o hb _ e => hk₁ b o hb e))
/-- the inner clause of a comprehension of two clauses -/
theorem turn_in (elt it1 it2 : Expr) (x y : Str) (px py : Pos) (scope : Scope) (pos : Pos) (it acc : Value) (env : Env) :
    compTurn (.ListComp elt [⟨.Name x px, it1, [], 0⟩, ⟨.Name y py, it2, [], 0⟩] scope pos) 1 it acc env = (standAt it2.pos >>= fun _ => pyNext it >>= fun r => match r with
      | none => pure (.done .next)
      | some v => letOwnedTupleGo (.Name y py) it v >>= fun _ => assign (.Name y py) env v >>= fun _ =>
        (eval elt env >>= fun x => call (.builtin "list.append") [acc, x] >>= fun _ => pure ()) >>= fun _ =>
          again (.compLoop (.ListComp elt [⟨.Name x px, it1, [], 0⟩, ⟨.Name y py, it2, [], 0⟩] scope pos) 1 it acc env)) := by rfl
theorem turn_out (elt it1 it2 : Expr) (x y : Str) (px py : Pos) (scope : Scope) (pos : Pos) (it acc : Value) (env : Env) :
    compTurn (.ListComp elt [⟨.Name x px, it1, [], 0⟩, ⟨.Name y py, it2, [], 0⟩] scope pos) 0 it acc env = (standAt it1.pos >>= fun _ => pyNext it >>= fun r => match r with
      | none => pure (.done .next)
      | some v => letOwnedTupleGo (.Name x px) it v >>= fun _ => assign (.Name x px) env v >>= fun _ =>
        (eval it2 env >>= fun xv => standAt it2.pos >>= fun _ => foldedSetIterable it2 env xv >>= fun xv => holding [xv] (pyIter xv) >>= fun i2 =>
          runOwn (.compStart (.ListComp elt [⟨.Name x px, it1, [], 0⟩, ⟨.Name y py, it2, [], 0⟩] scope pos) 1 i2 acc env) env >>= fun _ => pure ()) >>= fun _ =>
          again (.compLoop (.ListComp elt [⟨.Name x px, it1, [], 0⟩, ⟨.Name y py, it2, [], 0⟩] scope pos) 0 it acc env)) := by
  simp only [bind_assoc, pure_bind]
  rfl
theorem compStart_in {elt it1 it2 : Expr} {x y : Str} {px py : Pos} {scope : Scope} {pos : Pos} {it acc : Value} {env : Env}
    (h0 : codeAny (model prog w) A (.compLoop (.ListComp elt [⟨.Name x px, it1, [], 0⟩, ⟨.Name y py, it2, [], 0⟩] scope pos) 1 it acc env) R s)
    (h : wpAny (model prog w) A (pyIter it) (fun it' s' => codeAny (model prog w) A (.compLoop (.ListComp elt [⟨.Name x px, it1, [], 0⟩, ⟨.Name y py, it2, [], 0⟩] scope pos) 1 it' acc env) R s') (fun _ _ => False) s) :
    codeAny (model prog w) A (.compStart (.ListComp elt [⟨.Name x px, it1, [], 0⟩, ⟨.Name y py, it2, [], 0⟩] scope pos) 1 it acc env) R s := by
  refine codeAny_of_tree ?_
  show wpAny _ _ ((compStart (.ListComp elt [⟨.Name x px, it1, [], 0⟩, ⟨.Name y py, it2, [], 0⟩] scope pos) 1 it acc env).onRaise (fun x => do noteFrame x env; standAt theWindowsPlace)) _ _ s
  refine wpAny_notedAt ?_
  unfold compStart
  show wpAny _ _ (ask >>= _) _ _ s
  refine wpAny_bind (wpAny_askSetting (wpAny_ite ?_))
  split
  · first
      | exact wpAny_bind (wpAny_pure (wpAny_pure (And.intro rfl h0)))
      | exact wpAny_pure (And.intro rfl h0)
  · first
      | exact wpAny_bind (wpAny_rule (wpAny_bind (wpAny_standAt (wpAny_bind (wpAny_mono h (fun it' s' h' => wpAny_pure (And.intro rfl h')) fun _ _ x => x.elim)))))
      | (refine wpAny_bind (wpAny_rule ?_); show wpAny _ _ (standAt it2.pos >>= _) _ _ s; exact wpAny_bind (wpAny_standAt (wpAny_bind (wpAny_mono h (fun it' s' h' => wpAny_pure (And.intro rfl h')) fun _ _ x => x.elim))))
end
end Mine

end
section
open PySem PySem.W PySem.Spec PySem.Calls PyProof.Rows
set_option Elab.async false
set_option maxRecDepth 100000
set_option maxHeartbeats 4000000
namespace Mine
theorem offC2 : True := by
  w_top off
  trivial
/-- a list's items are these texts -/
abbrev StrsAre (vs : List Value) (xs : List Str) : Prop := Paired (fun (v : Value) (x : Str) => ∃ t, v = .str x t) vs xs
theorem paired_append {α β : Type} {F : α → β → Prop} : ∀ {l₁ l₁' : List α} {l₂ l₂' : List β}, Paired F l₁ l₂ → Paired F l₁' l₂' → Paired F (l₁ ++ l₁') (l₂ ++ l₂')
  | _, _, _, _, .nil, h => h
  | _, _, _, _, .cons h t, h' => .cons h (paired_append t h')
section
variable {prog : Program} {w : World} {A : Around} {E : Value → Shared → Prop}
/-- [elt for x in L for y in z] by its texts; assigned to a local name -/
theorem assign_comp2 {s : Shared} {elt it1 it2 : Expr} {x y nm : Str} {px py pn pos spos : Pos} {scope : Scope} {env : Env} {Q : Flow → Shared → Prop} {l : Addr} {items : Array Value} {xs : List Str} {z : Str} {m : Str → Option Value}
    (hsw : swapsWith (.ListComp elt [⟨.Name x px, it1, [], 0⟩, ⟨.Name y py, it2, [], 0⟩] scope pos) (some (.Name nm pn)) spos.line env = pure true)
    (hfree : ∀ v ∈ scope.names, v.2 ≠ .free) (hcell : ∀ v ∈ scope.names, v.2 ≠ .cell) (hkind : scope.kind = .function) (hnames : ∀ v ∈ scope.names, v.2 = .local → scope.names.lookup v.1 = some .local)
    (hx : scope.names.lookup x = some .local) (hy : scope.names.lookup y = some .local) (hxy : x ≠ y) (hnm : env.kindOf nm = some .local) (hp : (env.scope.kind == .class || (env.scope.kind == .module && env.locals != env.globals)) = false)
    (hh : A.handled = none) (hl : s.heap.IsList l items) (hxs : StrsAre items.toList xs) (hn : s.heap.Ns env.locals m) (hsz : xs.length * z.cps.size ≤ 100000)
    (hi1 : ∀ Q' : Value → Shared → Prop, Q' (.ref l) s → wpAny (model prog w) A (eval it1 env) Q' (fun _ _ => False) s)
    (hi2 : ∀ (C : Addr) (s₂ : Shared) (Q' : Value → Shared → Prop), (∀ t tk, Q' (.str z t) { s₂ with toks := tk }) → wpAny (model prog w) A (eval it2 (compEnv scope C env)) Q' (fun _ _ => False) s₂)
    (helt : ∀ (C : Addr) (s₂ : Shared) (m₂ : Str → Option Value) (a : Str) (t : Tok) (c : Nat) (u : Tok) (Q' : Value → Shared → Prop), s₂.heap.Ns C m₂ → m₂ x = some (.str a t) → m₂ y = some (.str ⟨#[c]⟩ u) → a ∈ xs →
      (∀ t' tk, Q' (.str (a ++ ⟨#[c]⟩) t') { s₂ with toks := tk }) → wpAny (model prog w) A (eval elt (compEnv scope C env)) Q' (fun _ _ => False) s₂)
    (hQ : ∀ D h' tk ys, @LE.le Nat _ s.heap.objs.size D → h'.PlainList D ys → StrsAre ys.toList (xs.flatMap fun a => z.cps.toList.map fun c => a ++ ⟨#[c]⟩) → h'.Ns env.locals (fun v => if v = nm then some (.ref D) else m v) →
      (∀ b o, b ≠ env.locals → s.heap.get? b = some o → h'.get? b = some o) → Q .next { s with heap := h', toks := tk })
    (hs1 : ∀ x, foldedSetIterable it1 env x = pure x) (hs2 : ∀ cenv x, foldedSetIterable it2 cenv x = pure x) :
    wpAny (model prog w) A (exec (.Assign [.Name nm pn] (.ListComp elt [⟨.Name x px, it1, [], 0⟩, ⟨.Name y py, it2, [], 0⟩] scope pos) spos) env) Q E s := by
  rw [exec_Assign_Name_used _ _ _ _ hsw]
  refine wpAny_noRaise ?_
  refine wpAny_bind (wpAny_standAt (wpAny_bind ?_))
  show wpAny _ A (do let _ ← comprehension (.ListComp elt [⟨.Name x px, it1, [], 0⟩, ⟨.Name y py, it2, [], 0⟩] scope pos) scope env _ (newList []) false (eval it1 env) (some (assign (.Name nm pn) env))) _ _ s
  refine wpAny_bind (wpAny_mono (wpAny_comprehension_use (u := assign (.Name nm pn) env) (Q := fun _ s' => Q .next s') rfl hs1 hfree hkind hnames (hi1 _ ?_)) (fun _ s' hq => wpAny_pure (wpAny_pure hq)) fun _ _ e => e)
  refine wpAny_pyIter_list hl ?_
  obtain ⟨ol, hol, _⟩ := id hl
  obtain ⟨oL, _, _, hoL, _⟩ := id hn
  have hlt : @LT.lt Nat _ l s.heap.objs.size := Heap.lt_size hol
  have hLt : @LT.lt Nat _ env.locals s.heap.objs.size := Heap.lt_size hoL
  have hbl : ∀ b o, s.heap.get? b = some o → @LT.lt Nat _ b s.heap.objs.size := fun b o e => Heap.lt_size e
  refine wpAny_newObj_type (wpAny_newFunctionEnv hcell (by intro y hy; simp at hy) (fun h₁ hns₁ hsb₁ => ?_) hkind)
  dsimp only at hns₁ hsb₁ ⊢
  generalize hH1 : s.heap.push { cls := .type "list_iterator", data := .fields #[.ref l, .int 0 0] } = H1 at hns₁ hsb₁ ⊢
  generalize hH2 : H1.push { cls := .type "list", data := .seq #[] } = H2 at hns₁ hsb₁ ⊢
  have sD : H1.objs.size = s.heap.objs.size + 1 := by rw [← hH1, Heap.size_push]
  have sC : H2.objs.size = s.heap.objs.size + 2 := by rw [← hH2, Heap.size_push, sD]
  generalize hD : H1.objs.size = D at sD ⊢
  generalize hC : H2.objs.size = C at sC hns₁ hsb₁ ⊢
  generalize hI : s.heap.objs.size = I at sC sD hlt hLt hbl ⊢
  have nDC : D ≠ C := Nat.ne_of_lt (by omega)
  have nIC : I ≠ C := by omega
  have nID : I ≠ D := by omega
  have nlC : l ≠ C := Nat.ne_of_lt (show @LT.lt Nat _ l C by omega)
  have nlD : l ≠ D := Nat.ne_of_lt (show @LT.lt Nat _ l D by omega)
  have nlI : l ≠ I := Nat.ne_of_lt (show @LT.lt Nat _ l I by omega)
  have nLC : env.locals ≠ C := Nat.ne_of_lt (show @LT.lt Nat _ env.locals C by omega)
  have nLD : env.locals ≠ D := Nat.ne_of_lt (show @LT.lt Nat _ env.locals D by omega)
  have nLI : env.locals ≠ I := Nat.ne_of_lt (show @LT.lt Nat _ env.locals I by omega)
  have old1 : ∀ b o, s.heap.get? b = some o → H1.get? b = some o := fun b o e => hH1 ▸ Heap.get?_push_of_some _ e
  have old2 : ∀ b o, H1.get? b = some o → H2.get? b = some o := fun b o e => hH2 ▸ Heap.get?_push_of_some _ e
  have old3 : ∀ b o, b ≠ C → H2.get? b = some o → h₁.get? b = some o := fun b o hb e => hsb₁.extBut b o hb (Heap.get?_push_of_some _ e)
  have old : ∀ b o, s.heap.get? b = some o → h₁.get? b = some o := fun b o e => old3 b o (Nat.ne_of_lt (Nat.lt_of_lt_of_le (hbl b o e) (by omega))) (old2 b o (old1 b o e))
  have hacc : h₁.PlainList D #[] := ⟨_, old3 _ _ nDC (by rw [← hD, ← hH2]; exact Heap.get?_push_size _ rfl)⟩
  have hit : h₁.IsListIter I l 0 := ⟨_, old3 _ _ nIC (old2 _ _ (by rw [← hI, ← hH1]; exact Heap.get?_push_size _ rfl)), rfl, rfl⟩
  have hl₁ : h₁.IsList l items := hl.at fun o e => old _ o e
  have W := Walks.list (prog := prog) (w := w) hh I l nlI items
  have hlen : items.size = xs.length := by have := hxs.length; simpa using this
  have fresh : ∀ b o, s.heap.get? b = some o → b ≠ I ∧ b ≠ D ∧ b ≠ C := fun b o e =>
    ⟨Nat.ne_of_lt (hbl b o e), Nat.ne_of_lt (Nat.lt_of_lt_of_le (hbl b o e) (by omega)), Nat.ne_of_lt (Nat.lt_of_lt_of_le (hbl b o e) (by omega))⟩
  let J : Nat → Heap → Prop := fun i h => ∃ ys, h.PlainList D ys ∧ StrsAre ys.toList ((xs.take i).flatMap fun a => z.cps.toList.map fun c => a ++ ⟨#[c]⟩) ∧ ∀ b o, s.heap.get? b = some o → h.get? b = some o
  have loop : ∀ tk, codeAny (model prog w) A (.compLoop (.ListComp elt [⟨.Name x px, it1, [], 0⟩, ⟨.Name y py, it2, [], 0⟩] scope pos) 0 (.ref I) (.ref D) (compEnv scope C env))
      (fun r s' => match r with
          | .ok _ => wpAny (model prog w) A (assign (.Name nm pn) env (.ref D)) (fun _ s'' => ∃ m, s''.heap.Ns C m ∧ ∀ h', Heap.SameBut C s''.heap h' → Q .next { s'' with heap := h' }) (fun _ _ => False) s'
          | .error x => ∃ m, s'.heap.Ns C m ∧ ∀ h', Heap.SameBut C s'.heap h' → wpAny (model prog w) A (passOn "comprehension.variables-let-go" x (compEnv scope C env) : Sem Value) (fun _ s' => Q .next s') (fun _ _ => False) { s' with heap := h' })
      { s with heap := h₁, toks := tk } := by
    intro tk
    refine compLoop_gen (m := fun _ => none) W (turn_out ..) hx (by simp [compEnv, hkind]) ?_ J (fun _ => True) ?_ (fun _ _ _ => trivial) ⟨hit, hl₁⟩ ⟨#[], hacc, .nil, old⟩ hns₁ trivial ?_ ?_
    · intro hm
      have hm' : C ∈ [I, l] := hm
      rcases (by simpa using hm' : C = I ∨ C = l) with e | e
      · exact nIC e.symm
      · exact nlC e.symm
    · rintro i h h' ⟨ys, hpl, hst, hk⟩ kk
      refine ⟨ys, hpl.at fun o e => kk _ o (by simpa using nID.symm) nDC e, hst, fun b o e => kk b o (by simpa using (fresh b o e).1) (fresh b o e).2.2 (hk b o e)⟩
    · rintro i v h tk₂ m₂ hi hv ⟨ys, hpl, hst, hk⟩ hn₂ hmx _ hSt
      obtain ⟨a, ha⟩ : ∃ a, xs[i]? = some a := ⟨xs[i]'(hlen ▸ hi), by simp [hlen ▸ hi]⟩
      obtain ⟨v', hv', t, rfl⟩ := paired_get hxs i a ha
      have hvv : v = .str a t := by
        have : items[i]? = some (.str a t) := by simpa using hv'
        rw [this] at hv; exact (Option.some.inj hv).symm
      subst hvv
      refine wpAny_bind (hi2 C _ _ fun tz tk₃ => ?_)
      refine wpAny_bind (wpAny_standAt (wpAny_bind (wpAny_of_eq (hs2 _ _) (wpAny_bind (wpAny_holding (wpAny_pyIter_str fun o St2 W2 st2 => ?_))))))
      dsimp only at st2 ⊢
      generalize hI2 : h.objs.size = I2 at W2 st2 ⊢
      have lt2 : ∀ b o, h.get? b = some o → b ≠ I2 := fun b o e => hI2 ▸ Nat.ne_of_lt (Heap.lt_size e)
      have hCI : C ≠ I2 := by obtain ⟨oC, _, _, hoC, _⟩ := id hn₂; exact lt2 _ _ hoC
      have hDI : D ≠ I2 := by obtain ⟨nD, hoD⟩ := id hpl; exact lt2 _ _ hoD
      refine wpAny_bind (wpAny_runOwn ?_)
      let J2 : Nat → Heap → Prop := fun j h' => ∃ ys', h'.PlainList D ys' ∧ StrsAre ys'.toList (((xs.take i).flatMap fun a => z.cps.toList.map fun c => a ++ ⟨#[c]⟩) ++ (z.cps.toList.take j).map fun c => a ++ ⟨#[c]⟩) ∧ (h'.IsListIter I l (i + 1) ∧ h'.IsList l items) ∧ ∀ b o, s.heap.get? b = some o → h'.get? b = some o
      have inl : ∀ tk, codeAny (model prog w) A (.compLoop (.ListComp elt [⟨.Name x px, it1, [], 0⟩, ⟨.Name y py, it2, [], 0⟩] scope pos) 1 (.ref I2) (.ref D) (compEnv scope C env))
          (fun r s' => match r with
            | .ok f => wpAny (model prog w) A (pure ()) (fun _ s₃ => ∃ h' tk' m₃, s₃ = { s with heap := h', toks := tk' } ∧ h'.Ns C m₃ ∧ True ∧ (h'.IsListIter I l (i + 1) ∧ h'.IsList l items) ∧ J (i + 1) h') (fun _ _ => False) s'
            | .error e => cameBackBy (model prog w) A (compEnv scope C env) (fun _ _ => False) e s') { s with heap := h.push o, toks := tk } := by
        intro tk₄
        refine compLoop_gen (m := m₂) (W2 A hh) (turn_in ..) hy (by simp [compEnv, hkind]) (fun hm => hCI (List.mem_singleton.mp hm)) J2 (fun m => m x = some (.str a t)) ?_ ?_ st2 ?_ (hn₂.push o) hmx ?_ ?_
        · rintro j h' h'' ⟨ys', hpl', hst', hS, hk'⟩ kk
          have nI2 : I ≠ I2 := by obtain ⟨oI, hoI, _⟩ := id hSt.1; exact lt2 _ _ hoI
          have nl2 : l ≠ I2 := by obtain ⟨oI, hoI, _⟩ := id hSt.2; exact lt2 _ _ hoI
          refine ⟨ys', hpl'.at fun o e => kk _ o (by simpa using hDI) nDC e, hst', ⟨hS.1.at fun o e => kk _ o (by simpa using nI2) nIC e, hS.2.at fun o e => kk _ o (by simpa using nl2) nlC e⟩, fun b o e => kk b o ?_ (fresh b o e).2.2 (hk' b o e)⟩
          have := lt2 b o (hk b o e)
          simpa using this
        · intro m v hm
          show (if x = y then some v else m x) = _
          rw [if_neg hxy]; exact hm
        · refine ⟨ys, hpl.at fun o e => Heap.get?_push_of_some _ e, by simpa using hst, ⟨hSt.1.at fun o e => Heap.get?_push_of_some _ e, hSt.2.at fun o e => Heap.get?_push_of_some _ e⟩, fun b o e => Heap.get?_push_of_some _ (hk b o e)⟩
        · rintro j u h' tk₅ m₃ hj ⟨c, tu, hc, rfl⟩ ⟨ys', hpl', hst', hS, hk'⟩ hn₃ hmy hmx' hSt2
          refine wpAny_bind (helt C _ m₃ a t c tu _ hn₃ hmx' hmy (List.mem_of_getElem? ha) fun t' tk₆ => ?_)
          have hc' : z.cps.toList[j]? = some c := by simpa using hc
          have hys : ys'.size ≤ sizeLine := by
            have e1 := hst'.length
            rw [sizeLine_eq]
            simp only [List.length_append, List.length_map, List.length_take, List.length_flatMap, Array.length_toList] at e1
            have e2 : ((xs.take i).map fun _ => z.cps.size).sum = (xs.take i).length * z.cps.size := by
              rw [List.map_const', List.sum_replicate_nat]
            rw [e2] at e1
            have hil : i < xs.length := hlen ▸ hi
            have hjl : j < z.cps.size := hj
            have e3 : (xs.take i).length = i := by rw [List.length_take]; omega
            rw [e3] at e1
            have e4 : i * z.cps.size + z.cps.size ≤ xs.length * z.cps.size := by
              rw [← Nat.succ_mul]; exact Nat.mul_le_mul_right _ hil
            omega
          refine wpAny_bind (wpAny_list_append_plain (hsz := hys) hpl' fun h₅ hl₅ hs₅ => wpAny_pure ?_)
          refine ⟨h₅, _, m₃, rfl, hn₃.sameBut hs₅ nDC.symm, hmx', (W2 A hh).frame _ _ _ hSt2 (fun b hb o e => hs₅.extBut b o (fun q => hDI (q ▸ List.mem_singleton.mp hb)) e), ys'.push (.str (a ++ ⟨#[c]⟩) t'), hl₅, ?_,
            ⟨hS.1.at fun o e => hs₅.extBut _ o nID e, hS.2.at fun o e => hs₅.extBut _ o nlD e⟩, fun b o e => hs₅.extBut b o (fresh b o e).2.1 (hk' b o e)⟩
          rw [Array.toList_push, List.take_add_one, hc', Option.toList_some, List.map_append, ← List.append_assoc]
          exact hst'.snoc ⟨t', rfl⟩
        · rintro h' tk₅ m₃ hn₃ hmx' ⟨ys', hpl', hst', hS, hk'⟩
          refine wpAny_pure ⟨h', tk₅, m₃, rfl, hn₃, trivial, hS, ys', hpl', ?_, hk'⟩
          rw [List.take_add_one, ha, Option.toList_some, List.flatMap_append, List.flatMap_cons, List.flatMap_nil, List.append_nil]
          have e0 : z.cps.toList.take z.cps.size = z.cps.toList := by rw [← Array.length_toList, List.take_length]
          rw [e0] at hst'
          exact hst'
      exact compStart_in (inl _) ((W2 A hh).self 0 _ _ _ st2 (inl _))
    · rintro h' tk₂ m₂ hn₂ _ ⟨ys, hpl, hst, hk⟩
      rw [hlen, List.take_length] at hst
      have hnL : h'.Ns env.locals m := hn.keeps hk
      refine wpAny_assign_Name (wpAny_storeName_local hnm hnL (fun h₃ hn₃ hs₃ => ?_) hp)
      refine ⟨m₂, hn₂.sameBut hs₃ nLC.symm, fun h₄ hs₄ => ?_⟩
      refine hQ D h₄ _ ys ?_ ((hpl.extBut hs₃.extBut nLD.symm).extBut hs₄.extBut nDC) hst (hn₃.sameBut hs₄ nLC) fun b o hb e => hs₄.extBut b o (fresh b o e).2.2 (hs₃.extBut b o hb (hk b o e))
      rw [hI]; omega
  exact codeAny_compStart_list (loop _) (W.self 0 _ _ _ ⟨hit, hl₁⟩ (loop _))
end
end Mine

end
section
open PySem PySem.W PySem.Spec PySem.Calls PyProof.Rows
set_option Elab.async false
set_option maxRecDepth 100000
set_option maxHeartbeats 4000000
namespace Mine
theorem offN2 : True := by
  w_top off
  trivial
theorem fillN2 : PySem.Challenge.rw_rl0017_01 = PySem.Challenge.rw_rl0017_01 ∧ hd.heap_39 = hd.heap_39 := by
  k_fill
  exact ⟨rfl, rfl⟩
def namesL : Nat → List Str
  | 0 => [Str.ofString ""]
  | k + 1 => (namesL k).flatMap fun a => (Str.ofString "ab").cps.toList.map fun c => a ++ ⟨#[c]⟩
theorem namesL_length : ∀ k, (namesL k).length = 2 ^ k
  | 0 => rfl
  | k + 1 => by
    rw [namesL, List.length_flatMap]
    have : (fun a : Str => ((Str.ofString "ab").cps.toList.map fun c => a ++ (⟨#[c]⟩ : Str)).length) = fun _ => 2 := by funext a; rw [List.length_map]; decide
    rw [this, List.map_const', List.sum_replicate_nat, namesL_length k, Nat.pow_succ]
theorem namesL_len : ∀ k, ∀ a ∈ namesL k, a.length = k
  | 0, a, h => by rw [namesL, List.mem_singleton] at h; subst h; decide
  | k + 1, a, h => by
    rw [namesL, List.mem_flatMap] at h
    obtain ⟨b, hb, hc⟩ := h
    obtain ⟨c, _, rfl⟩ := List.mem_map.mp hc
    rw [Str.length_append, namesL_len k b hb]; rfl
section
variable {prog : Program} {w : World} {A : Around} {s : Shared} {E : Value → Shared → Prop} {Q : Value → Shared → Prop}
theorem names_spec {k : Nat} {t : Tok} (hk : k ≤ 8) (g : Gd w s.heap) (hd : A.depth < recursionLimit) (hh : A.handled = none)
    (ret : ∀ l h' tk ys, s.heap.StaysIn h' → h'.PlainList l ys → StrsAre ys.toList (namesL k) → s.heap.get? l = none → Q (.ref l) { s with heap := h', toks := tk }) : wpAny (model prog w) A (call (.ref 80) [.int (k : Int) t]) Q E s := by
  refine' enter (binds := [(Str.ofString "count", .int (k : Int) t)]) g ?ho ?hcd hd ?hb ?hl ?hce ?hco ?hg ?hk ?_
  case ho => k_is
  case hcd => k_is
  case hb => exact rfl
  case hl => exact locs rfl
  case hce => decide
  case hco => exact rfl
  case hg => exact rfl
  case hk => exact rfl
  intro L h₁ tk F
  have X := g.X
  obtain ⟨lo, mn, mg, mb, T⟩ := g.T
  have N : News s.heap L h₁ [] := News.nil
  iterate 8 walk1
  rename_i hF hN
  refine wpAny_execs_cons ?_
  refine For_invV s.heap rfl rfl ?_
  iterate 7 walk1
  rename_i hr F2 N2 _
  refine loop_range (A := A.deeper _) (n := k) hh hr (small_one (by omega) (by omega) (by omega) (by omega)) ?_ F2 N2 (fun i m news => ∃ l ys n u, news = [(l, W.listOf ys n)] ∧ StrsAre ys.toList (namesL i) ∧ m = fun z => if z = Str.ofString "k" then u else if z = Str.ofString "names" then some (.ref l) else [(Str.ofString "count", Value.int (k : Int) t)].reverse.lookup z) ?_ ?_ ?_
  · rw [rangeSize_one]
    split <;> omega
  · exact ⟨_, _, _, _, rfl, .cons ⟨_, rfl⟩ .nil, map2 rfl rfl fun z h1 h2 => by simp only [if_neg h2]⟩
  · rintro i ti m₁ news₁ h tk own hi ⟨l, ys, n, u, rfl, hys, rfl⟩ hne hI F₁ N₁
    refine wpAny_execs_cons ?_
    have hg := N₁ (l, W.listOf ys n) (.head _)
    refine assign_comp2 (A := A.deeper _) (z := Str.ofString "ab") rfl (by decide) (by decide) rfl (by decide) rfl rfl (by decide) rfl rfl hh ⟨_, hg.1, rfl, n, rfl⟩ hys F₁.ns ?_ ?_ ?_ ?_ ?_ (fun _ => rfl) (fun _ _ => rfl)
    · rw [namesL_length]
      have : 2 ^ i ≤ 2 ^ 8 := Nat.pow_le_pow_right (by omega) (by omega)
      have e : (Str.ofString "ab").cps.size = 2 := by decide
      rw [e]; omega
    · intro Q' hq
      walk1
      exact hq
    · intro C s₂ Q' hq
      exact Calls.Constant_str (hq _ _)
    · intro C s₂ m₂ a ta c u Q' hn hmx hmy ha hq
      refine wpAny_BinOp (wpAny_Name (wpAny_loadName_local rfl rfl hn hmx (wpAny_Name (wpAny_loadName_local rfl rfl hn hmy ?_) (by decide))) (by decide))
      refine PyProof.Rows.add_str hq ?_
      rw [namesL_len i a ha, sizeLine_eq]
      show i + 1 ≤ _
      omega
    · intro D h' tk' ys' hD hpl hys' hn' hk'
      obtain ⟨n', hn2⟩ := hpl
      refine wpAny_execs_nil ?_
      have hnone : s.heap.get? D = none := by
        cases e : s.heap.get? D with
        | none => rfl
        | some o => exact absurd (Heap.lt_size (F₁.keep _ _ e)) (Nat.not_lt.mpr hD)
      have hDL : D ≠ L := fun e => absurd F₁.ns.lt (e ▸ Nat.not_lt.mpr hD)
      refine TurnEnd.next (news₂ := [(D, W.listOf ys' n')]) ⟨hn', fun b o e => hk' b o (Nat.ne_of_lt (Nat.lt_of_lt_of_le (Heap.lt_size e) F₁.above)) (F₁.keep b o e), F₁.above⟩ ?_ ?_ ?_
      · intro p hp
        rcases List.mem_cons.mp hp with rfl | hp
        · exact ⟨hn2, hDL, hnone⟩
        · have n0 := N₁ p (List.mem_append_right _ (by simpa using hp))
          exact ⟨hk' _ _ n0.2.1 n0.1, n0.2⟩
      · intro p hp e
        rw [List.mem_singleton.mp hp] at e
        dsimp only at e
        rw [e] at hD
        exact absurd hI (Nat.not_lt.mpr hD)
      · exact ⟨_, _, _, _, rfl, hys', map2 rfl rfl fun z h1 h2 => by simp only [if_neg h1, if_neg h2]⟩
  · rintro h' tk m' news' F' N' ⟨l, ys, n, u, rfl, hys, rfl⟩
    iterate 3 walk1
    exact ret l _ _ ys F'.keep ⟨n, (N' _ (.head _)).1⟩ hys (N' _ (.head _)).2.2
end
end Mine

end
section
open PySem PySem.W PySem.Spec PySem.Calls PyProof.Rows
set_option Elab.async false
set_option maxRecDepth 100000
set_option maxHeartbeats 4000000
namespace Mine
theorem offF1 : True := by
  w_top off
  trivial
section
variable {prog : Program} {w : World} {A : Around} {E : Value → Shared → Prop} {s : Shared} {env : Env} {h₀ : Heap} {x : Str} {px : Pos} {body : List Stmt} {R : Result → Shared → Prop}
/-- a for over a list whose name is a cell -/
theorem loopC_list {c l : Addr} {items : Array Value} {m : Str → Option Value} {oc : Obj} {v₀ : Option Value} {news : List (Addr × Obj)} (hh : A.handled = none) (hk : env.scope.kind = .function) (hx : env.kindOf x = some .cell) (hc : env.cells.lookup x = some c)
    (hl : s.heap.IsList l items) (hlL : l ≠ env.locals) (hlc : l ≠ c) (hcn : ∀ p ∈ news, p.1 ≠ c) (F : Fr h₀ env.locals s.heap m) (N : News h₀ env.locals s.heap ((c, oc) :: news)) (hoc : oc.data = .cell v₀)
    (J : Nat → (Str → Option Value) → List (Addr × Obj) → Prop) (j0 : J 0 m news)
    (turn : ∀ i v m₁ news₁ oc₁ h tk own, items[i]? = some v → J i m₁ news₁ → (∀ p ∈ news₁, p.1 ≠ c ∧ p.1 ≠ s.heap.objs.size) → (∀ p ∈ own, p.1 ≠ c) → (∀ b ∈ [s.heap.objs.size, l], h₀.get? b = none → ∀ o, h.get? b = some o → (b, o) ∈ own) → (∀ p ∈ own, p.1 ∈ [s.heap.objs.size, l]) → (∃ o, (s.heap.objs.size, o) ∈ own) →
      Fr h₀ env.locals h m₁ → News h₀ env.locals h ((c, oc₁) :: (news₁ ++ own)) → oc₁.data = .cell (some v) →
      wpAny (model prog w) A (execs body env) (fun f s₂ => f = .next ∧ ∃ h' tk' m₂ oc₂ v₂ news₂, s₂ = { s with heap := h', toks := tk' } ∧ Fr h₀ env.locals h' m₂ ∧ News h₀ env.locals h' ((c, oc₂) :: (news₂ ++ own)) ∧ oc₂.data = .cell v₂ ∧ (∀ p ∈ news₂, p.1 ≠ c ∧ p.1 ≠ s.heap.objs.size) ∧ J (i + 1) m₂ news₂) (fun _ _ => False) { s with heap := h, toks := tk })
    (done : ∀ h' tk m' oc' v' news', Fr h₀ env.locals h' m' → News h₀ env.locals h' ((c, oc') :: news') → oc'.data = .cell v' → (∀ p ∈ news', p.1 ≠ c) → J items.size m' news' → R (.ok .next) { s with heap := h', toks := tk }) :
    wpAny (model prog w) A (pyIter (.ref l)) (fun it s₂ => codeAny (model prog w) A (.forLoop (.Name x px) it body [] env) R s₂) E s := by
  refine wpAny_pyIter_list hl ?_
  obtain ⟨ol, hol, _⟩ := id hl
  have hne : l ≠ s.heap.objs.size := Nat.ne_of_lt (Heap.lt_size hol)
  have hnew : h₀.get? s.heap.objs.size = none := next_is_new F
  have W := Walks.list (prog := prog) (w := w) hh s.heap.objs.size l hne items
  have hIL : env.locals ≠ s.heap.objs.size := Nat.ne_of_lt F.ns.lt
  have hcm := N (c, oc) (.head _)
  have hcI : c ≠ s.heap.objs.size := Nat.ne_of_lt (Heap.lt_size hcm.1)
  have hLf : env.locals ∉ [s.heap.objs.size, l] := by
    intro hm
    rcases List.mem_cons.mp hm with e | hm
    · exact hIL e
    · exact hlL (List.mem_singleton.mp hm).symm
  generalize hI : s.heap.objs.size = I at *
  refine codeAny_forLoop
    (fun k s' => ∃ h' tk m' oc' v' news' i, s' = { s with heap := h', toks := tk } ∧ (h'.IsListIter I l i ∧ h'.IsList l items) ∧ Fr h₀ env.locals h' m' ∧ News h₀ env.locals h' ((c, oc') :: news') ∧ oc'.data = .cell v' ∧ (∀ p ∈ news', p.1 ≠ c ∧ p.1 ≠ I) ∧ J i m' news' ∧ i ≤ items.size ∧ k = items.size + 1 - i) ?_ (items.size + 1)
    ⟨_, s.toks, m, oc, v₀, news, 0, rfl, ⟨⟨_, hI ▸ Heap.get?_push_size _ rfl, rfl, rfl⟩, hl.at fun o e => Heap.get?_push_of_some _ e⟩, F.push _, (fun p hp => ⟨Heap.get?_push_of_some _ (N p hp).1, (N p hp).2⟩), hoc, (fun p hp => ⟨hcn p hp, hI ▸ Nat.ne_of_lt (Heap.lt_size (N p (.tail _ hp)).1)⟩), j0, Nat.zero_le _, rfl⟩
  rintro k s' ⟨h', tk, m', oc', v', news', i, rfl, hst', F', N', hoc', hnw', hJ, hi, rfl⟩
  have next : ∀ h₁ : Heap, (∀ b o, b ∉ [I] → h'.get? b = some o → h₁.get? b = some o) → Fr h₀ env.locals h₁ m' ∧ News h₀ env.locals h₁ ((c, oc') :: news') := fun h₁ hk₁ =>
    ⟨⟨F'.ns.at' fun o e => hk₁ _ o (by simpa using hIL) e, fun b o e => hk₁ b o (fun q => by rw [List.mem_singleton.mp q, hnew] at e; cases e) (F'.keep b o e), F'.above⟩, fun p hp => ⟨hk₁ _ _ (fun q => by
      have q := List.mem_singleton.mp q
      rcases List.mem_cons.mp hp with rfl | hp
      · exact hcI q
      · exact (hnw' p hp).2 q) (N' p hp).1, (N' p hp).2⟩⟩
  by_cases hlt : i < items.size
  · refine W.item i _ _ _ hlt hst' fun v h₁ tk₁ hP hst₁ hk₁ => ?_
    obtain ⟨F₁, N₁⟩ := next h₁ hk₁
    refine wpAny_assign_Name (wpAny_storeName_cell hk hx hc ⟨oc', (N₁ _ (.head _)).1, hoc'⟩ fun h₂ hv₂ hs₂ => ?_)
    obtain ⟨oc₂, hoc₂, hd₂⟩ := hv₂
    have hcL := (N₁ _ (.head _)).2.1
    have hc0 := (N₁ _ (.head _)).2.2
    have F₂ : Fr h₀ env.locals h₂ m' := ⟨F₁.ns.sameBut hs₂ (Ne.symm hcL), fun b o e => hs₂.extBut b o (fun q => by rw [q, hc0] at e; cases e) (F₁.keep b o e), F₁.above⟩
    have hst₂ : h₂.IsListIter I l (i + 1) ∧ h₂.IsList l items := ⟨hst₁.1.extBut hs₂.extBut (Ne.symm hcI), hst₁.2.extBut hs₂.extBut hlc⟩
    have Nown : News h₀ env.locals h₂ (PyProof.Rows.ownOf h₀ [I, l] h₂) := news_ownOf hLf
    have hownc : ∀ p ∈ PyProof.Rows.ownOf h₀ [I, l] h₂, p.1 ≠ c := fun p hp e => by
      have := ownOf_sub p hp
      rw [e] at this
      rcases List.mem_cons.mp this with q | q
      · exact hcI q
      · exact hlc (List.mem_singleton.mp q).symm
    have N₂ : News h₀ env.locals h₂ ((c, oc₂) :: (news' ++ PyProof.Rows.ownOf h₀ [I, l] h₂)) := by
      intro p hp
      rcases List.mem_cons.mp hp with rfl | hp
      · exact ⟨hoc₂, hcL, hc0⟩
      rcases List.mem_append.mp hp with hp | hp
      · have n := N₁ p (.tail _ hp)
        exact ⟨hs₂.extBut _ _ (hnw' p hp).1 n.1, n.2⟩
      · exact Nown p hp
    obtain ⟨oI, hoI, _⟩ := id hst₂.1
    refine wpAny_mono (turn i v m' news' oc₂ h₂ _ (PyProof.Rows.ownOf h₀ [I, l] h₂) hP hJ hnw' hownc (fun b hb hn o e => mem_ownOf hb hn e) ownOf_sub ⟨oI, mem_ownOf (by simp) hnew hoI⟩ F₂ N₂ hd₂) (fun f s₃ h₃ => ?_) fun _ _ q => q.elim
    obtain ⟨rfl, h₃', tk₃, m₃, oc₃, v₃, news₃, rfl, F₃, N₃, hd₃, ha₃, hJ₃⟩ := h₃
    refine ⟨items.size + 1 - (i + 1), by omega, h₃', tk₃, m₃, oc₃, v₃, news₃, i + 1, rfl, ?_, F₃, ?_, hd₃, ha₃, hJ₃, hlt, rfl⟩
    · refine W.frame _ _ _ hst₂ fun b hb o e => ?_
      cases hn : h₀.get? b with
      | some o₀ =>
        have : o₀ = o := by have := F₂.keep b o₀ hn; rw [e] at this; exact (Option.some.inj this).symm
        exact this ▸ F₃.keep b o₀ hn
      | none => exact (N₃ _ (.tail _ (List.mem_append_right _ (mem_ownOf hb hn e)))).1
    · intro p hp
      rcases List.mem_cons.mp hp with rfl | hp
      · exact N₃ _ (.head _)
      · exact N₃ p (.tail _ (List.mem_append_left _ hp))
  · have hin : i = items.size := by omega
    subst hin
    refine W.done _ _ _ hst' fun h₁ tk₁ hk₁ => wpAny_execs_nil ?_
    obtain ⟨F₁, N₁⟩ := next h₁ hk₁
    exact done h₁ tk₁ m' oc' v' news' F₁ N₁ hoc' (fun p hp => (hnw' p hp).1) hJ
end
end Mine

end
section
open PySem PySem.W PySem.Spec PySem.Calls PyProof.Rows
set_option Elab.async false
set_option maxRecDepth 100000
set_option maxHeartbeats 4000000
namespace Mine
theorem offF2 : True := by
  w_top off
  trivial
section
variable {prog : Program} {w : World} {A : Around} {E : Value → Shared → Prop} {s : Shared} {Q : Value → Shared → Prop}
theorem fillsI_list : fillsInplaceSlot (.type "list") "add" (Operator.Add == .Add) = pure false := by
  unfold fillsInplaceSlot
  show (typeLookup (.type "list") (dunderI "add") >>= fun fi => pure (fi.isSome && !isSeqSlot fi)) = pure false
  rw [F.slot_list_iadd.lookup]
  rfl
theorem seqI_list : seqSlot? (.type "list") (dunderI "add") = pure (some (.builtin "list.__iadd__")) := PyProof.Rows.seqSlot_of F.slot_list_iadd.lookup (by decide +kernel)
/-- xs += ys, both lists -/
theorem iadd_list {a l : Addr} {xs ys : Array Value} (ha : s.heap.PlainList a xs) (hl : s.heap.IsList l ys) (hsz : xs.size + ys.size ≤ 100000)
    (h : ∀ h', h'.PlainList a (xs ++ ys) → Heap.SameBut a s.heap h' → Q (.ref a) { s with heap := h' }) : wpAny (model prog w) A (inplaceOp .Add (.ref a) (.ref l)) Q E s := by
  obtain ⟨n, hoa⟩ := id ha
  have hTa : s.TypeIs (.ref a) "list" := ha.isList.typeIs
  have hTl : s.TypeIs (.ref l) "list" := hl.typeIs
  unfold inplaceOp
  refine wpAny_holding ?_
  refine wpAny_bind (wpAny_typeOf hTa (wpAny_bind (wpAny_of_eq fillsI_list ?_)))
  show wpAny _ A (if false = true then _ else _) Q E s
  rw [if_neg Bool.false_ne_true]
  refine wpAny_bind (binaryOp1_none (nm := "add") hTa hTl noFill_list_add ?_)
  refine wpAny_bind (wpAny_of_eq seqI_list ?_)
  refine wpAny_bind (wpAny_rule ?_)
  refine wpAny_call_entry F.slot_list_iadd hTa F.entry_list_iadd ?_ (F.args_list_iadd_2 _ _)
  show wpAny _ A.in1 (Builtin.List.listExtendWith (.ref a) (.ref l) (.ref a)) _ _ s
  unfold Builtin.List.listExtendWith
  refine wpAny_bind (wpAny_typeOf hTl ?_)
  rw [if_pos (by simp)]
  obtain ⟨ol, hol, hcl, nl, hdl⟩ := id hl
  unfold Builtin.List.listItems
  refine wpAny_bind (wpAny_bind (wpAny_seqItems hol hdl (wpAny_pure ?_)))
  refine wpAny_bind (wpAny_bind (wpAny_seqItems hoa rfl (wpAny_pure ?_)))
  have ht : Builtin.List.listTooLong (xs.size + ys.size) = false := by
    unfold Builtin.List.listTooLong
    rw [sizeLine_eq]; exact decide_eq_false (by omega)
  rw [ht, Bool.and_false, if_neg Bool.false_ne_true]
  show wpAny _ A.in1 (updateSeq a (· ++ ys) >>= fun _ => ret (.ref a)) _ _ s
  refine wpAny_bind (wpAny_updateSeq hoa rfl (wpAny_pure ⟨_, rfl, h _ ?_ (Heap.SameBut.update ..)⟩) (by rw [sizeLine_eq]; omega) (by rw [sizeLine_eq, Array.size_append]; omega))
  exact ⟨_, Heap.get?_update_self _ hoa rfl⟩
end
section
variable {prog : Program} {w : World} {A : Around} {E : Value → Shared → Prop} {s : Shared} {env : Env} {h₀ : Heap} {x : Str} {body : List Stmt} {Q : Flow → Shared → Prop}
/-- a loop over a range, with the iterator's place told -/
theorem loop_rangeO {r : Addr} {a₀ b₀ c : Int} {t₀ u₀ v₀ : Tok} {n : Nat} {m : Str → Option Value} {news : List (Addr × Obj)} (hh : A.handled = none) (hr : IsRange s.heap r a₀ b₀ c t₀ u₀ v₀) (hsmall : Builtin.Range.small a₀ b₀ c = true) (hn : Builtin.Range.rangeSize a₀ b₀ c = (n : Int))
    (F : Fr h₀ env.locals s.heap m) (N : News h₀ env.locals s.heap news)
    (J : Nat → (Str → Option Value) → List (Addr × Obj) → Prop) (j0 : J 0 m news)
    (turn : ∀ i t m₁ news₁ h tk own, i < n → J i m₁ news₁ → (∀ p ∈ news₁, p.1 ≠ s.heap.objs.size) → (∀ p ∈ own, p.1 = s.heap.objs.size) → (∃ o, (s.heap.objs.size, o) ∈ own) → Fr h₀ env.locals h (fun z => if z = x then some (.int (a₀ + (i : Int) * c) t) else m₁ z) → News h₀ env.locals h (news₁ ++ own) →
      wpAny (model prog w) A (execs body env) (TurnEnd h₀ env.locals s.heap.objs.size (J (i + 1)) own { s with heap := h, toks := tk } Q) E { s with heap := h, toks := tk })
    (done : ∀ h' tk m' news', Fr h₀ env.locals h' m' → News h₀ env.locals h' news' → J n m' news' → Q .next { s with heap := h', toks := tk }) :
    wpAny (model prog w) A (pyIter (.ref r)) (fun it s₂ => LoopAtV prog w A h₀ env x body Q E it s₂) E s := by
  have hL : env.locals ∉ [s.heap.objs.size] := fun hm => absurd F.ns.lt ((List.mem_singleton.mp hm) ▸ Nat.lt_irrefl _)
  refine wpAny_pyIter_range hr hsmall ?_
  refine loop_fresh (Walks.range hh _ a₀ c n) hL (by show IsRangeIter _ _ _ _ _; rw [hn]; simpa using Heap.get?_push_size _ rfl) F N J j0 ?_ done (fun i h st => ⟨_, st⟩)
  rintro i v m₁ news₁ h tk own hi ⟨t, rfl⟩ hJ h1 hall ho h4 F₁ N₁
  exact turn i t m₁ news₁ h tk own hi hJ h1 (fun p hp => List.mem_singleton.mp (ho p hp)) (let ⟨o, e⟩ := h4; ⟨o, hall _ (by simp) (next_is_new F) o e⟩) F₁ N₁
end
end Mine

end
section
open PySem PySem.W PySem.Spec PySem.Calls PyProof.Rows
set_option Elab.async false
set_option maxRecDepth 100000
set_option maxHeartbeats 4000000
namespace Mine
theorem offR3 : True := by
  w_top off
  trivial
theorem fillR3 : PySem.Challenge.rw_rl0017_01 = PySem.Challenge.rw_rl0017_01 ∧ hd.heap_39 = hd.heap_39 := by
  k_fill
  exact ⟨rfl, rfl⟩
/-- how many places ahead of p bear a 1 of the word and a b of the name -/
def aheadN (word name : Str) (p : Nat) : Nat := ((List.range p).filter fun k => word.cps[k]? == some 49 && name.cps[k]? == some 98).length
/-- the rules for one front -/
def ruleOf (word : Str) (turn : Int) (p : Nat) (name : Str) : List (Str × Bool) :=
  if aheadN word name p % 2 = 1 then (if Int.fmod turn 2 = 0 then [(name ++ Str.ofString "b", true), (name ++ Str.ofString "b", false)] else [(name ++ Str.ofString "b", false), (name ++ Str.ofString "b", true)]) else [(name ++ Str.ofString "b", false)]
/-- the rules of one place -/
def rulesAt (word : Str) (turn : Int) (p : Nat) : List (Str × Bool) := if word.cps[p]? = some 49 then (namesL p).flatMap (ruleOf word turn p) else []
def rulesW (word : Str) (turn : Int) : List (Str × Bool) := (List.range word.length).flatMap (rulesAt word turn)
theorem count_vs {vs : List Value} {n : Nat} {p : Value → Bool} {pz : Nat → Bool} (hlen : vs.length = n) (hP : ∀ (j : Nat) v, vs[j]? = some v → ∃ t, v = Value.int (0 + (j : Int) * 1) t) (hp : ∀ (j : Nat) t, p (.int (0 + (j : Int) * 1) t) = pz j) :
    (vs.filter p).length = ((List.range n).filter pz).length := by
  have e : vs.map p = (List.range n).map pz := by
    apply List.ext_getElem?
    intro j
    rw [List.getElem?_map, List.getElem?_map]
    by_cases hj : j < n
    · have h1 : vs[j]? = some vs[j] := by simp
      obtain ⟨t, ht⟩ := hP j _ h1
      rw [h1, List.getElem?_range hj, Option.map_some, Option.map_some, ht, hp]
    · rw [List.getElem?_eq_none (by omega), List.getElem?_eq_none (by simp; omega)]; rfl
  have e2 : ∀ {α : Type} (l : List α) (f : α → Bool), (l.filter f).length = ((l.map f).filter id).length := by
    intro α l f
    rw [List.filter_map, List.length_map]; rfl
  rw [e2, e, ← e2]
theorem news_sub {h₀ h : Heap} {L : Addr} {l l' : List (Addr × Obj)} (N : News h₀ L h l) (k : ∀ p ∈ l', p ∈ l) : News h₀ L h l' := fun p hp => N p (k p hp)
theorem seqIndex_nat {i n : Nat} (hi : i < n) : seqIndex? (i : Int) n = some i := by
  unfold seqIndex?
  have h1 : ¬ (i : Int) < 0 := by omega
  have h2 : (i : Int) < (n : Int) := by omega
  have h3 : (0 : Int) ≤ (i : Int) := by omega
  simp only [if_neg h1, decide_eq_true h2, decide_eq_true h3, Bool.and_self, if_true, Int.toNat_natCast]
theorem item_nat {x : Str} {i c : Nat} (hc : x.cps[i]? = some c) : Txt.item x (i : Int) = ⟨#[c]⟩ := by
  have hi : i < x.cps.size := (Array.getElem?_eq_some_iff.mp hc).1
  unfold Txt.item Txt.charAt
  rw [seqIndex_nat (n := x.length) hi, Option.bind_some, hc]; rfl
theorem item_is {x : Str} {i : Nat} (hi : i < x.length) : (Txt.item x (0 + (i : Int) * 1) == Str.ofString "1") = decide (x.cps[i]? = some 49) := by
  have hi' : i < x.cps.size := hi
  obtain ⟨c, hc⟩ : ∃ c, x.cps[i]? = some c := ⟨x.cps[i], by simp [hi']⟩
  have e : (0 + (i : Int) * 1) = (i : Int) := by omega
  rw [e, item_nat hc, hc]
  have e1 : Str.ofString "1" = (⟨#[49]⟩ : Str) := by decide +kernel
  rw [e1]
  by_cases h : c = 49
  · subst h; simp
  · have h2 : ¬ ((⟨#[c]⟩ : Str) = ⟨#[49]⟩) := by
      intro q; injection q with q; simp at q; exact h q
    rw [beq_eq_false_iff_ne.mpr h2]
    simp [h]
theorem small_idx {j : Nat} (h : j < 1000) : (decide ((j : Int) < -(2 ^ 63 : Int)) || decide ((j : Int) ≥ 2 ^ 63)) = false := by
  have h1 : ¬ (j : Int) < -(2 ^ 63 : Int) := by omega
  have h2 : ¬ (j : Int) ≥ 2 ^ 63 := by omega
  rw [decide_eq_false h1, decide_eq_false h2]; rfl
theorem eq_1b {c d : Nat} : (((⟨#[c]⟩ : Str) ++ (⟨#[d]⟩ : Str)) == Str.ofString "1b") = (some c == some 49 && some d == some 98) := by
  have e1 : Str.ofString "1b" = (⟨#[49, 98]⟩ : Str) := by decide +kernel
  have e2 : ((⟨#[c]⟩ : Str) ++ (⟨#[d]⟩ : Str)) = (⟨#[c, d]⟩ : Str) := rfl
  rw [e1, e2]
  by_cases h : c = 49
  · by_cases h' : d = 98
    · subst h h'; rfl
    · have : ¬ ((⟨#[c, d]⟩ : Str) = ⟨#[49, 98]⟩) := by intro q; injection q with q; simp at q; exact h' q.2
      rw [beq_eq_false_iff_ne.mpr this]; simp [h']
  · have : ¬ ((⟨#[c, d]⟩ : Str) = ⟨#[49, 98]⟩) := by intro q; injection q with q; simp at q; exact h q.1
    rw [beq_eq_false_iff_ne.mpr this]; simp [h]
theorem mem_rot4 {α : Type} {a b c d p : α} {r : List α} (h : p ∈ d :: a :: b :: c :: r) : p ∈ a :: b :: c :: d :: r := by
  simp only [List.mem_cons] at h ⊢
  rcases h with h | h | h | h | h
  · exact .inr (.inr (.inr (.inl h)))
  · exact .inl h
  · exact .inr (.inl h)
  · exact .inr (.inr (.inl h))
  · exact .inr (.inr (.inr (.inr h)))
theorem mem_back4 {α : Type} {a b c d p : α} {r q : List α} (h : p ∈ a :: b :: c :: d :: (q ++ r)) : p ∈ d :: (q ++ a :: b :: c :: r) := by
  simp only [List.mem_cons, List.mem_append] at h ⊢
  rcases h with h | h | h | h | h | h
  · exact .inr (.inr (.inl h))
  · exact .inr (.inr (.inr (.inl h)))
  · exact .inr (.inr (.inr (.inr (.inl h))))
  · exact .inl h
  · exact .inr (.inl h)
  · exact .inr (.inr (.inr (.inr (.inr h))))
theorem ruleOf_length (word : Str) (turn : Int) (p : Nat) (nm : Str) : (ruleOf word turn p nm).length ≤ 2 := by
  unfold ruleOf
  split
  · split <;> simp
  · simp
theorem flat_le {α β : Type} {f : α → List β} {c : Nat} (h : ∀ a, (f a).length ≤ c) : ∀ l : List α, (l.flatMap f).length ≤ l.length * c
  | [] => by simp
  | a :: l => by
    rw [List.flatMap_cons, List.length_append, List.length_cons, Nat.succ_mul]
    have := flat_le h l
    have := h a
    omega
theorem rulesAt_length (word : Str) (turn : Int) (p : Nat) : (rulesAt word turn p).length ≤ 2 * 2 ^ p := by
  unfold rulesAt
  split
  · have := flat_le (ruleOf_length word turn p) (namesL p)
    rw [namesL_length] at this; omega
  · simp
theorem rulesTo_length (word : Str) (turn : Int) : ∀ i, ((List.range i).flatMap (rulesAt word turn)).length ≤ 2 * 2 ^ i
  | 0 => by simp
  | i + 1 => by
    rw [List.range_succ, List.flatMap_append, List.length_append, List.flatMap_cons, List.flatMap_nil, List.append_nil]
    have := rulesTo_length word turn i
    have := rulesAt_length word turn i
    rw [Nat.pow_succ]; omega
theorem paired_drop {α β : Type} {F : α → β → Prop} : ∀ {l₁ : List α} {l₂ : List β} (_ : Paired F l₁ l₂) (n : Nat), Paired F (l₁.drop n) (l₂.drop n)
  | _, _, .nil, n => by simp; exact .nil
  | _, _, .cons h t, 0 => .cons h t
  | _, _, .cons h t, n + 1 => paired_drop t n
theorem paired_take {α β : Type} {F : α → β → Prop} : ∀ {l₁ : List α} {l₂ : List β} (_ : Paired F l₁ l₂) (n : Nat), Paired F (l₁.take n) (l₂.take n)
  | _, _, .nil, n => by simp; exact .nil
  | _, _, .cons h t, 0 => .nil
  | _, _, .cons h t, n + 1 => .cons h (paired_take t n)
/-- the first ones come last -/
def rotW (word : Str) (turn : Int) : List (Str × Bool) :=
  let c := (turn.fmod (((rulesW word turn).length : Int) + 1)).toNat
  (rulesW word turn).drop c ++ (rulesW word turn).take c
/-- behind a call that may fill the table at 70 -/
theorem step70 {B h h' : Heap} {L : Addr} {m : Str → Option Value} {ps ps' : Array Value} {rest nw : List (Addr × Obj)} (F : Fr B L h m) (N : News B L h ((70, tabObj ps) :: rest)) (hr : ∀ p ∈ rest, p.1 ≠ 70) (k : Heap.ExtBut 70 h h') (h70 : h'.get? 70 = some (tabObj ps'))
    (hnw : ∀ p ∈ nw, h'.get? p.1 = some p.2 ∧ @LE.le Nat _ h.objs.size p.1) : Fr B L h' m ∧ News B L h' ((70, tabObj ps') :: (nw ++ rest)) := by
  have n70 := N (70, tabObj ps) (.head _)
  refine ⟨⟨F.ns.extBut k (Ne.symm n70.2.1), fun b o e => k b o (fun q => by rw [q, n70.2.2] at e; cases e) (F.keep b o e), F.above⟩, fun p hp => ?_⟩
  rcases List.mem_cons.mp hp with rfl | hp
  · exact ⟨h70, n70.2⟩
  rcases List.mem_append.mp hp with hp | hp
  · refine ⟨(hnw p hp).1, fun e => ?_, ?_⟩
    · exact absurd F.ns.lt (e ▸ Nat.not_lt.mpr (hnw p hp).2)
    · cases q : B.get? p.1 with
      | none => rfl
      | some o => exact absurd (Heap.lt_size (F.keep _ _ q)) (Nat.not_lt.mpr (hnw p hp).2)
  · have n := N p (.tail _ hp)
    exact ⟨k _ _ (hr p hp) n.1, n.2⟩
section
variable {prog : Program} {w : World} {A : Around} {s : Shared} {E : Value → Shared → Prop} {Q : Value → Shared → Prop}
theorem rec_spec {word : Str} {turn : Int} {t u : Tok} {ps : Array Value} {kn : List (Addr × Obj)} (hlen : word.length ≤ 8) (g : Gd w s.heap) (hps : s.heap.get? 70 = some (tabObj ps)) (hP : TabG w (inL kn) ps) (hd : A.depth + 3 < recursionLimit) (hh : A.handled = none)
    (ret : ∀ x h' tk ps' nw, Heap.ExtBut 70 s.heap h' → h'.get? 70 = some (tabObj ps') → (∀ p ∈ nw, h'.get? p.1 = some p.2 ∧ @LE.le Nat _ s.heap.objs.size p.1) → TabG w (inL (nw ++ kn)) ps' → RecG w (inL (nw ++ kn)) x (rotW word turn) → Q (.ref x) { s with heap := h', toks := tk }) :
    wpAny (model prog w) A (call (.ref 85) [.str word t, .int turn u]) Q E s := by
  refine wpAny_call ?_
  refine' codeEnterC (hid := [(70, tabObj ps)]) (binds := [(Str.ofString "word", .str word t), (Str.ofString "turn", .int turn u)]) ?kh g ?ho ?hcd ?hr ?hb ?hki ?hnd ?hco ?hg ?hk ?_
  case kh => 
    intro p hp
    rw [List.mem_singleton.mp hp]; exact hps
  case ho => k_is
  case hcd => k_is
  case hr => omega
  case hb => exact rfl
  case hki => exact rfl
  case hnd => decide +kernel
  case hco => exact rfl
  case hg => exact rfl
  case hk => exact rfl
  intro L h₁ tk cells hlt F N Y
  obtain ⟨on, ow, rfl, hon, how⟩ := CellsAre.two Y
  have hb : Heap.ExtBut 70 s.heap (hideAll s.heap ([(70, tabObj ps)].map (·.1))) := fun b o hb e => hideAll_get _ e (by simpa using hb)
  have gb := g.extBut hb
  have h70 : @LT.lt Nat _ 70 L := hlt _ (.head _)
  have hsL : @LE.le Nat _ s.heap.objs.size L := by have := F.above; rwa [hideAll_size] at this
  replace N : News _ L h₁ [(L + 1 + 1, on), (L + 1, ow), (70, tabObj ps)] := N
  clear Y hlt
  generalize hideAll s.heap ([(70, tabObj ps)].map (·.1)) = B at hb gb F N
  have X := gb.X
  obtain ⟨lo, mn, mg, mb, T⟩ := gb.T
  iterate 6 walk1
  rename_i R h₂ hlR h₃ F₂ N₂
  refine wpAny_execs_cons ?_
  refine For_invV B rfl rfl ?_
  iterate 13 walk1
  rename_i hr F₃ N₃ _
  refine loop_rangeO (A := A.deeper _) (n := word.length) hh hr (small_one (by omega) (by omega) (by omega) (by omega)) ?_ F₃ N₃ (fun i m news => ∃ rs n on' vn ps' nr u1 u2 u3, news = (R, W.listOf rs n) :: (L + 1 + 1, on') :: (L + 1, ow) :: (70, tabObj ps') :: nr ∧ on'.data = .cell vn ∧ (∀ p ∈ nr, @LT.lt Nat _ R p.1) ∧ TabG w (inL (nr ++ kn)) ps' ∧ RulesG w (inL (nr ++ kn)) rs.toList ((List.range i).flatMap (rulesAt word turn)) ∧
      m = fun z => if z = Str.ofString "place" then u1 else if z = Str.ofString "ahead" then u2 else if z = Str.ofString "pair" then u3 else if z = Str.ofString "rules" then some (.ref R) else if z = Str.ofString "turn" then some (.int turn u) else none) ?_ ?_ ?_
  · rw [rangeSize_one]
    split <;> omega
  · refine ⟨_, _, _, _, _, [], _, _, _, rfl, hon, (fun _ h => nomatch h), hP, .nil, map5 rfl rfl rfl rfl rfl fun z h1 h2 h3 h4 h5 => ?_⟩
    simp only [if_neg h4]
    show (if z = Str.ofString "turn" then _ else none) = none
    rw [if_neg h5]
  · rintro i ti m₁ news₁ h tk own hi ⟨rs, n, on', vn, ps', nr, u1, u2, u3, rfl, hon', hnr, hT', hR', rfl⟩ hne hown hItr F₄ N₄
    iterate 10 walk1
    rw [item_is hi]
    by_cases hw : word.cps[i]? = some 49
    · refine W.ite_pos (decide_eq_true hw) ?_
      refine wpAny_execs_cons ?_
      refine wpAny_For ?_
      iterate 6 walk1
      refine ⟨gb.X.keeps F₄.keep, ?_⟩
      rw [show (0 + (i : Int) * 1) = (i : Int) by omega]
      obtain ⟨oL, _, _, hoL, _⟩ := id F₄.ns
      have hgt := fun p hp => (N₄ p hp).1
      refine names_spec (by omega) (gb.keeps F₄.keep) (by show A.depth + 1 < _; omega) hh ?_
      intro l h₅ tk₅ ys k₅ hpl hys hln
      have F₅ := fr_kept F₄ k₅
      have N₅ := news_kept N₄ k₅
      clear F₄ N₄
      obtain ⟨nl, hol⟩ := id hpl
      dsimp only at hln hgt
      have hlL : l ≠ L := fun e => by
        rw [e] at hln
        exact absurd (hln.symm.trans hoL) (by simp)
      have hlne : ∀ p ∈ (R, W.listOf rs n) :: (L + 1 + 1, on') :: (L + 1, ow) :: (70, tabObj ps') :: nr ++ own, l ≠ p.1 := fun p hp e => by
        have := hgt p hp
        rw [← e, hln] at this; cases this
      obtain ⟨oI0, hI0⟩ := hItr
      have N₆ : News B L h₅ ((L + 1 + 1, on') :: ((R, W.listOf rs n) :: (L + 1, ow) :: (70, tabObj ps') :: (nr ++ own))) := news_sub N₅ (by
        intro p hp
        simp only [List.mem_cons, List.mem_append, List.cons_append] at hp ⊢
        rcases hp with h | h | h | h | h | h <;> simp [h])
      have hI1R : @LT.lt Nat _ R h₅.objs.size := Heap.lt_size (N₆ _ (.tail _ (.head _))).1
      have hI0R : ∀ p ∈ own, @LT.lt Nat _ R p.1 := fun p hp => by
        have h1 := Heap.lt_size (N₃ _ (.head _)).1
        rw [hown p hp]; exact h1
      clear N₅
      refine loopC_list (A := A.deeper _) (c := L + 1 + 1) hh rfl rfl rfl hpl.isList hlL ?_ ?_ F₅ N₆ hon' (fun j m news => ∃ rs n ps' nr u2 u3, news = (R, W.listOf rs n) :: (L + 1, ow) :: (70, tabObj ps') :: (nr ++ own) ∧ (∀ p ∈ nr, @LT.lt Nat _ R p.1) ∧ (∀ p ∈ nr, ∀ q ∈ own, p.1 ≠ q.1) ∧ TabG w (inL (nr ++ kn)) ps' ∧
          RulesG w (inL (nr ++ kn)) rs.toList ((List.range i).flatMap (rulesAt word turn) ++ ((namesL i).take j).flatMap (ruleOf word turn i)) ∧
          m = fun z => if z = Str.ofString "ahead" then u2 else if z = Str.ofString "pair" then u3 else if z = Str.ofString "place" then some (.int (i : Int) ti) else if z = Str.ofString "rules" then some (.ref R) else if z = Str.ofString "turn" then some (.int turn u) else none) ?_ ?_ ?_
      · exact hlne _ (.tail _ (.head _))
      · intro p hp
        simp only [List.mem_cons, List.mem_append] at hp
        have hcR : @LT.lt Nat _ (L + 1 + 1) R := hlR.1
        rcases hp with rfl | rfl | rfl | h | h
        · exact Nat.ne_of_gt hcR
        · exact Nat.ne_of_lt (Nat.lt_succ_self _)
        · exact Nat.ne_of_lt (show @LT.lt Nat _ 70 (L + 1 + 1) by omega)
        · exact Nat.ne_of_gt (Nat.lt_trans hcR (hnr p h))
        · exact Nat.ne_of_gt (Nat.lt_trans hcR (hI0R p h))
      · refine ⟨rs, n, ps', nr, _, _, rfl, hnr, (fun p hp q hq => by rw [hown q hq]; exact hne p (.tail _ (.tail _ (.tail _ (.tail _ hp))))), hT', by simpa using hR', map5 rfl rfl ?_ rfl rfl fun z h1 h2 h3 h4 h5 => by simp only [if_neg h1, if_neg h2, if_neg h3, if_neg h4, if_neg h5]⟩
        show some (Value.int (0 + (i : Int) * 1) ti) = _
        rw [show (0 + (i : Int) * 1) = (i : Int) by omega]
      · rintro j v m₁ news₁ oc₁ h tk own1 hv ⟨rs, n, ps', nr, u2, u3, rfl, hnr, hno, hT', hR', rfl⟩ hne1 hoc1 hall1 hown1 hItr1 F₇ N₇ hd₇
        have hjs : j < (namesL i).length := by
          have h1 := (Array.getElem?_eq_some_iff.mp hv).1
          have h2 := hys.length
          rw [Array.length_toList] at h2
          omega
        obtain ⟨nm, hnm⟩ : ∃ nm, (namesL i)[j]? = some nm := ⟨(namesL i)[j], by simp [hjs]⟩
        obtain ⟨v', hv', tn, rfl⟩ := paired_get hys j nm hnm
        have hvv : v = .str nm tn := by
          have h1 : ys[j]? = some (.str nm tn) := by simpa using hv'
          rw [h1] at hv; exact (Option.some.inj hv).symm
        subst hvv
        simp only [List.cons_append] at N₇
        iterate 6 walk1
        refine wpAny_ListComp_free (fun v => match v with | .int k _ => word.cps[k.toNat]? == some 49 && nm.cps[k.toNat]? == some 98 | _ => false) (fun v y => y = v) (cl := [(Str.ofString "word", L + 1), (Str.ofString "name", L + 1 + 1)]) rfl (by decide) rfl (by decide) rfl ?_
        iterate 7 walk1
        rename_i hr8 F₈ N₈ k8
        refine wpAny_pyIter_range hr8 (small_one (by omega) (by omega) (by omega) (by omega)) ?_
        have hsz8 : Builtin.Range.rangeSize 0 (i : Int) 1 = ((i : Nat) : Int) := by rw [rangeSize_one]; split <;> omega
        refine ⟨_, _, _, i, _, _, rfl, (Walks.range (A := A.deeper _) hh _ 0 1 i).bound, by rw [sizeLine_eq]; omega, by show IsRangeIter _ _ _ _ _; rw [hsz8]; simpa using Heap.get?_push_size _ rfl, ?_, ?_, ?_⟩
        · intro b hb
          rw [List.mem_singleton.mp hb, Heap.size_push]; exact Nat.lt_succ_self _
        · have hgn := (N₈ _ (.head _)).1
          have hgw := (N₈ _ (.tail _ (.tail _ (.head _)))).1
          dsimp only at hgn hgw
          constructor
          · rintro C j v s₃ m₃ E' hC ⟨hji, tj, rfl⟩ hn₃ hm₃ hk₃ _
            have hcn : s₃.heap.IsCell (L + 1 + 1) (some (.str nm tn)) := ⟨oc₁, hk₃ _ _ (fun q => absurd (Heap.lt_size hgn) (by rw [List.mem_singleton.mp q]; exact Nat.lt_irrefl _)) (Heap.get?_push_of_some _ hgn), hd₇⟩
            have hcw : s₃.heap.IsCell (L + 1) (some (.str word t)) := ⟨ow, hk₃ _ _ (fun q => absurd (Heap.lt_size hgw) (by rw [List.mem_singleton.mp q]; exact Nat.lt_irrefl _)) (Heap.get?_push_of_some _ hgw), how⟩
            refine wpAny_noRaise (wpAny_tests_one ?_)
            refine wpAny_isTrue_Compare1 (wpAny_BinOp ?_)
            refine wpAny_Subscript_Name F.slot_str_getitem.lookup (wpAny_Name (wpAny_loadName_cell rfl rfl rfl hcw (wpAny_Name (wpAny_loadName_local rfl rfl hn₃ hm₃ ⟨typeIs_str _ _ _, ?_⟩) (by decide))) (by decide))
            rw [show (0 + (j : Int) * 1) = (j : Int) by omega] at hm₃ ⊢
            have hjw : j < word.cps.size := by have : i < word.cps.size := hi; omega
            have hjn : j < nm.cps.size := by have : nm.cps.size = i := namesL_len i nm (List.mem_of_getElem? hnm); omega
            have ew : word.cps[j]? = some word.cps[j] := by simp [hjw]
            have en : nm.cps[j]? = some nm.cps[j] := by simp [hjn]
            refine P.getItem_str (small_idx (by omega)) (by rw [seqIndex_nat (n := word.length) hjw]; exact ew) ?_
            refine wpAny_Subscript_Name F.slot_str_getitem.lookup (wpAny_Name (wpAny_loadName_cell rfl rfl rfl hcn (wpAny_Name (wpAny_loadName_local rfl rfl hn₃ hm₃ ⟨typeIs_str _ _ _, ?_⟩) (by decide))) (by decide))
            refine P.getItem_str (small_idx (by omega)) (by rw [seqIndex_nat (n := nm.length) hjn]; exact en) ?_
            refine PyProof.Rows.add_str (fun t' tk' => ?_) (by rw [sizeLine_eq]; show 1 + 1 ≤ _; omega)
            refine Calls.Constant_str (PyProof.Rows.eq_str (wpAny_truthy_bool ⟨?_, s₃.heap, _, rfl, fun _ _ e => e⟩))
            show (_ == _) = (word.cps[(j : Int).toNat]? == some 49 && nm.cps[(j : Int).toNat]? == some 98)
            rw [Int.toNat_natCast, ew, en]
            exact eq_1b
          · rintro C j v s₃ m₃ E' hC ⟨_, tj, rfl⟩ _ hn₃ hm₃ hk₃ _
            refine wpAny_Name (wpAny_loadName_local rfl rfl hn₃ hm₃ ⟨rfl, s₃.heap, s₃.toks, rfl, fun _ _ e => e⟩) (by decide)
        · intro D h₉ tk₉ ds vs hD hlD hplD hlen9 hP9 hF9 hk9
          have k9 : ∀ b o, _ = some o → h₉.get? b = some o := fun b o (e : (Shared.heap _).get? b = some o) => hk9 b o (fun q => absurd (Heap.lt_size e) (by rw [List.mem_singleton.mp q]; exact Nat.lt_irrefl _)) (Heap.get?_push_of_some _ e)
          have F₉ := fr_kept F₈ k9
          have N₉ := news_kept N₈ k9
          have hds : ds.size = aheadN word nm i := by
            have e1 := hF9.length
            rw [← Array.length_toList, ← e1]
            exact count_vs hlen9 (fun j v e => (hP9 j v e).2) (fun j t => by
              show (word.cps[(0 + (j : Int) * 1).toNat]? == some 49 && nm.cps[(0 + (j : Int) * 1).toNat]? == some 98) = _
              rw [show (0 + (j : Int) * 1) = (j : Int) by omega, Int.toNat_natCast])
          have hds' : aheadN word nm i ≤ i := by
            unfold aheadN
            exact Nat.le_trans (List.length_filter_le _ _) (by rw [List.length_range]; exact Nat.le_refl _)
          clear hk9 hF9 hP9 F₈ N₈ hr8
          walk1
          refine len_list hlD (by omega) ?_
          rw [hds]
          clear hlD hplD hD
          iterate 13 walk1
          refine PyProof.Rows.add_str (fun tb tkb => ?_) (by rw [sizeLine_eq, namesL_len i nm (List.mem_of_getElem? hnm)]; show i + 1 ≤ _; omega)
          iterate 3 walk1
          rename_i F₁₀ N₁₀
          have h70R : @LT.lt Nat _ 70 R := hlR.2.2
          have hsepT : ∀ p ∈ nr ++ own ++ own1, p.1 ≠ 70 ∧ p.1 ≠ R := by
            intro p hp
            simp only [List.mem_append] at hp
            rcases hp with (h | h) | h
            · exact ⟨Nat.ne_of_gt (Nat.lt_trans h70R (hnr p h)), Nat.ne_of_gt (hnr p h)⟩
            · exact ⟨Nat.ne_of_gt (Nat.lt_trans h70R (hI0R p h)), Nat.ne_of_gt (hI0R p h)⟩
            · rcases List.mem_cons.mp (hown1 p h) with e | e
              · rw [e]; exact ⟨Nat.ne_of_gt (Nat.lt_trans h70R hI1R), Nat.ne_of_gt hI1R⟩
              · rw [List.mem_singleton.mp e]; exact ⟨hlne _ (.tail _ (.tail _ (.tail _ (.head _)))), hlne _ (.head _)⟩
          have hsep : ∀ p ∈ (L + 1 + 1, oc₁) :: (R, W.listOf rs n) :: (L + 1, ow) :: (nr ++ own ++ own1), p.1 ≠ 70 := by
            intro p hp
            rcases List.mem_cons.mp hp with rfl | hp
            · exact Nat.ne_of_gt (show @LT.lt Nat _ 70 (L + 1 + 1) by omega)
            rcases List.mem_cons.mp hp with rfl | hp
            · exact Nat.ne_of_gt h70R
            rcases List.mem_cons.mp hp with rfl | hp
            · exact Nat.ne_of_gt (show @LT.lt Nat _ 70 (L + 1) by omega)
            exact (hsepT p hp).1
          refine ⟨gb.X.keeps F₁₀.keep, ?_⟩
          have N₁₁ : News B L _ ((70, tabObj ps') :: (L + 1 + 1, oc₁) :: (R, W.listOf rs n) :: (L + 1, ow) :: (nr ++ own ++ own1)) := news_sub N₁₀ fun p hp => mem_rot4 hp
          have hR10 := Heap.lt_size (N₁₁ _ (.tail _ (.tail _ (.head _)))).1
          have hc10 := Heap.lt_size (N₁₁ _ (.tail _ (.head _))).1
          have hi0 := Heap.lt_size (N₁₁ _ (.tail _ (.tail _ (.tail _ (.tail _ (List.mem_append_left _ (List.mem_append_right _ hI0))))))).1
          obtain ⟨oI1, hI1⟩ := hItr1
          have hi1 := Heap.lt_size (N₁₁ _ (.tail _ (.tail _ (.tail _ (.tail _ (List.mem_append_right _ hI1)))))).1
          refine rule_spec (kn := nr ++ kn) (gb.keeps F₁₀.keep) (N₁₁ _ (.head _)).1 hT' (by show A.depth + 1 + 2 < _; omega) ?_
          intro x1 h₁₂ tk₁₂ ps1 nw1 k₁₂ h70₁₂ hnw1 hT1 hR1
          obtain ⟨F₁₂, N₁₂'⟩ := step70 F₁₀ N₁₁ hsep k₁₂ h70₁₂ hnw1
          have N₁₂ : News B L h₁₂ ((L + 1 + 1, oc₁) :: (R, W.listOf rs n) :: (L + 1, ow) :: (70, tabObj ps1) :: (nw1 ++ (nr ++ own ++ own1))) := news_sub N₁₂' fun p hp => mem_back4 hp
          clear F₁₀ N₁₀ N₁₁ N₁₂'
          iterate 8 walk1
          refine PyProof.Rows.add_str (fun tb2 tkb2 => ?_) (by rw [sizeLine_eq, namesL_len i nm (List.mem_of_getElem? hnm)]; show i + 1 ≤ _; omega)
          iterate 3 walk1
          refine ⟨gb.X.keeps F₁₂.keep, ?_⟩
          have hlt12 : @LT.lt Nat _ R h₁₂.objs.size := Heap.lt_size (N₁₂ _ (.tail _ (.head _))).1
          have hc12 := Heap.lt_size (N₁₂ _ (.head _)).1
          have hi012 := Heap.lt_size (N₁₂ _ (.tail _ (.tail _ (.tail _ (.tail _ (List.mem_append_right _ (List.mem_append_left _ (List.mem_append_right _ hI0)))))))).1
          have hi112 := Heap.lt_size (N₁₂ _ (.tail _ (.tail _ (.tail _ (.tail _ (List.mem_append_right _ (List.mem_append_right _ hI1))))))).1
          have N₁₃ : News B L _ ((70, tabObj ps1) :: (L + 1 + 1, oc₁) :: (R, W.listOf rs n) :: (L + 1, ow) :: (nw1 ++ (nr ++ own ++ own1))) := news_sub N₁₂ fun p hp => mem_rot4 hp
          have hsep1 : ∀ p ∈ (L + 1 + 1, oc₁) :: (R, W.listOf rs n) :: (L + 1, ow) :: (nw1 ++ (nr ++ own ++ own1)), p.1 ≠ 70 := by
            intro p hp
            rcases List.mem_cons.mp hp with rfl | hp
            · exact hsep _ (.head _)
            rcases List.mem_cons.mp hp with rfl | hp
            · exact hsep _ (.tail _ (.head _))
            rcases List.mem_cons.mp hp with rfl | hp
            · exact hsep _ (.tail _ (.tail _ (.head _)))
            rcases List.mem_append.mp hp with hp | hp
            · exact Nat.ne_of_gt (Nat.lt_of_lt_of_le (Nat.lt_trans h70R hR10) (hnw1 p hp).2)
            · exact (hsepT p hp).1
          refine rule_spec (kn := nw1 ++ (nr ++ kn)) (gb.keeps F₁₂.keep) (N₁₃ _ (.head _)).1 hT1 (by show A.depth + 1 + 2 < _; omega) ?_
          intro x2 h₁₄ tk₁₄ ps2 nw2 k₁₄ h70₁₄ hnw2 hT2 hR2
          obtain ⟨F₁₄, N₁₄'⟩ := step70 F₁₂ N₁₃ hsep1 k₁₄ h70₁₄ hnw2
          have N₁₄ : News B L h₁₄ ((L + 1 + 1, oc₁) :: (R, W.listOf rs n) :: (L + 1, ow) :: (70, tabObj ps2) :: (nw2 ++ (nw1 ++ (nr ++ own ++ own1)))) := news_sub N₁₄' fun p hp => mem_back4 hp
          clear F₁₂ N₁₂ N₁₃ N₁₄'
          iterate 7 walk1
          rename_i PP _ hPP _ F₁₅ N₁₅
          have hRx1 : RuleG w (inL (nw2 ++ (nw1 ++ (nr ++ kn)))) x1 (nm ++ Str.ofString "b") false := hR1.mono fun b o h => List.mem_append_right _ h
          refine wpAny_mono (Q := fun v s₂ => ∃ V its h' tk', v = .ref V ∧ s₂ = { s with heap := h', toks := tk' } ∧ h'.IsList V its ∧ V ≠ R ∧ RulesG w (inL (nw2 ++ (nw1 ++ (nr ++ kn)))) its.toList (ruleOf word turn i nm) ∧
              Fr B L h' (fun y => if y = Str.ofString "pair" then some (.ref PP) else if y = Str.ofString "ahead" then some (.int (aheadN word nm i : Nat) (tk₉ + 1)) else if y = Str.ofString "ahead" then u2 else if y = Str.ofString "pair" then u3 else if y = Str.ofString "place" then some (.int (i : Int) ti) else if y = Str.ofString "rules" then some (.ref R) else if y = Str.ofString "turn" then some (.int turn u) else none) ∧
              News B L h' ((L + 1 + 1, oc₁) :: (R, W.listOf rs n) :: (L + 1, ow) :: (70, tabObj ps2) :: (nw2 ++ (nw1 ++ (nr ++ own ++ own1))))) (E := fun _ _ => False) ?_ ?_ (fun _ _ q => q)
          · iterate 7 walk1
            have e2 : ((aheadN word nm i : Nat) : Int).fmod 2 = ((aheadN word nm i % 2 : Nat) : Int) := by rw [Int.fmod_eq_emod_of_nonneg _ (by omega)]; omega
            by_cases ha : aheadN word nm i % 2 = 1
            · refine W.ite_pos (by rw [e2, ha]; rfl) ?_
              iterate 7 walk1
              by_cases htn : Int.fmod turn 2 = 0
              · refine W.ite_neg (by rw [htn]; decide) ?_
                iterate 10 walk1
                rename_i D' h'' F'' N'' l''
                refine ⟨D', _, _, _, rfl, rfl, ⟨_, (N'' _ (.head _)).1, rfl, _, rfl⟩, Nat.ne_of_gt l''.2.2.1, ?_, F'', news_sub N'' fun p hp => .tail _ (.tail _ hp)⟩
                unfold ruleOf
                rw [if_pos ha, if_pos htn]
                exact .cons ⟨x2, rfl, hR2⟩ (.cons ⟨x1, rfl, hRx1⟩ .nil)
              · refine W.ite_pos (bne_iff_ne.mpr htn) ?_
                walk1
                refine ⟨PP, _, _, _, rfl, rfl, ⟨_, (N₁₅ _ (.head _)).1, rfl, _, rfl⟩, Nat.ne_of_gt hPP.2.1, ?_, F₁₅, news_sub N₁₅ fun p hp => .tail _ hp⟩
                unfold ruleOf
                rw [if_pos ha, if_neg htn]
                exact .cons ⟨x1, rfl, hRx1⟩ (.cons ⟨x2, rfl, hR2⟩ .nil)
            · refine W.ite_neg (by rw [e2, show aheadN word nm i % 2 = 0 by omega]; decide) ?_
              iterate 8 walk1
              rename_i D' h'' F'' N'' l''
              refine ⟨D', _, _, _, rfl, rfl, ⟨_, (N'' _ (.head _)).1, rfl, _, rfl⟩, Nat.ne_of_gt l''.2.2.1, ?_, F'', news_sub N'' fun p hp => .tail _ (.tail _ hp)⟩
              unfold ruleOf
              rw [if_neg ha]
              exact .cons ⟨x1, rfl, hRx1⟩ .nil
          · rintro v s₂ ⟨V, its, h₁₆, tk₁₆, rfl, rfl, hV, hVR, hRu, F₁₆, N₁₆⟩
            have hRm := N₁₆ _ (.tail _ (.head _))
            have hsz : rs.size + its.size ≤ 100000 := by
              have e1 := hR'.length
              have e2 := hRu.length
              rw [Array.length_toList] at e1 e2
              rw [List.length_append] at e1
              have b1 := rulesTo_length word turn i
              have b2 := flat_le (ruleOf_length word turn i) ((namesL i).take j)
              have b3 := ruleOf_length word turn i nm
              have b4 : ((namesL i).take j).length ≤ 2 ^ i := by rw [← namesL_length, List.length_take]; omega
              have b5 : 2 ^ i ≤ 2 ^ 8 := Nat.pow_le_pow_right (by omega) (by omega)
              omega
            refine iadd_list ⟨n, hRm.1⟩ hV hsz ?_
            rintro h₁₇ ⟨n', ho17⟩ hs17
            have F₁₇ : Fr B L h₁₇ _ := ⟨F₁₆.ns.sameBut hs17 (Ne.symm hRm.2.1), fun b o e => hs17.extBut b o (fun q => by rw [q, hRm.2.2] at e; cases e) (F₁₆.keep b o e), F₁₆.above⟩
            have hsepN : ∀ p ∈ nw2 ++ (nw1 ++ (nr ++ own ++ own1)), p.1 ≠ R := by
              intro p hp
              rcases List.mem_append.mp hp with hp | hp
              · exact Nat.ne_of_gt (Nat.lt_of_lt_of_le hlt12 (hnw2 p hp).2)
              rcases List.mem_append.mp hp with hp | hp
              · exact Nat.ne_of_gt (Nat.lt_of_lt_of_le hR10 (hnw1 p hp).2)
              · exact (hsepT p hp).2
            have N₁₇ : News B L h₁₇ ((L + 1 + 1, oc₁) :: (R, W.listOf (rs ++ its) n') :: (L + 1, ow) :: (70, tabObj ps2) :: (nw2 ++ (nw1 ++ (nr ++ own ++ own1)))) := by
              intro p hp
              rcases List.mem_cons.mp hp with rfl | hp
              · have n0 := N₁₆ _ (.head _)
                exact ⟨hs17.extBut _ _ (Nat.ne_of_lt hlR.1) n0.1, n0.2⟩
              rcases List.mem_cons.mp hp with rfl | hp
              · exact ⟨ho17, hRm.2⟩
              rcases List.mem_cons.mp hp with rfl | hp
              · have n0 := N₁₆ _ (.tail _ (.tail _ (.head _)))
                exact ⟨hs17.extBut _ _ (Nat.ne_of_lt hlR.2.1) n0.1, n0.2⟩
              rcases List.mem_cons.mp hp with rfl | hp
              · have n0 := N₁₆ _ (.tail _ (.tail _ (.tail _ (.head _))))
                exact ⟨hs17.extBut _ _ (Nat.ne_of_lt hlR.2.2) n0.1, n0.2⟩
              · have n0 := N₁₆ p (.tail _ (.tail _ (.tail _ (.tail _ hp))))
                exact ⟨hs17.extBut _ _ (hsepN p hp) n0.1, n0.2⟩
            clear F₁₆ N₁₆ hRm F₁₅ N₁₅
            iterate 2 walk1
            rename_i F₁₈ N₁₈
            refine ⟨rfl, _, _, _, oc₁, _, (R, W.listOf (rs ++ its) n') :: (L + 1, ow) :: (70, tabObj ps2) :: ((nw2 ++ (nw1 ++ nr)) ++ own), rfl, F₁₈, news_sub N₁₈ ?_, hd₇, ?_, rs ++ its, n', ps2, nw2 ++ (nw1 ++ nr), _, _, rfl, ?_, ?_, ?_, ?_, map5 rfl rfl rfl rfl rfl fun z h1 h2 h3 h4 h5 => by simp only [if_neg h1, if_neg h2, if_neg h3, if_neg h4, if_neg h5]⟩
            · intro p hp
              simp only [List.cons_append, List.append_assoc] at hp ⊢
              exact hp
            · intro p hp
              rcases List.mem_cons.mp hp with rfl | hp
              · exact hne1 (R, W.listOf rs n) (.head _)
              rcases List.mem_cons.mp hp with rfl | hp
              · exact hne1 (L + 1, ow) (.tail _ (.head _))
              rcases List.mem_cons.mp hp with rfl | hp
              · exact hne1 (70, tabObj ps') (.tail _ (.tail _ (.head _)))
              rcases List.mem_append.mp hp with hp | hp
              · rcases List.mem_append.mp hp with hp | hp
                · exact ⟨Nat.ne_of_gt (Nat.lt_of_lt_of_le hc12 (hnw2 p hp).2), Nat.ne_of_gt (Nat.lt_of_lt_of_le hi112 (hnw2 p hp).2)⟩
                rcases List.mem_append.mp hp with hp | hp
                · exact ⟨Nat.ne_of_gt (Nat.lt_of_lt_of_le hc10 (hnw1 p hp).2), Nat.ne_of_gt (Nat.lt_of_lt_of_le hi1 (hnw1 p hp).2)⟩
                · exact hne1 p (.tail _ (.tail _ (.tail _ (List.mem_append_left _ hp))))
              · exact hne1 p (.tail _ (.tail _ (.tail _ (List.mem_append_right _ hp))))
            · intro p hp
              rcases List.mem_append.mp hp with hp | hp
              · exact Nat.lt_of_lt_of_le hlt12 (hnw2 p hp).2
              rcases List.mem_append.mp hp with hp | hp
              · exact Nat.lt_of_lt_of_le hR10 (hnw1 p hp).2
              · exact hnr p hp
            · intro p hp q hq
              have eq0 : q.1 = _ := (hown q hq).trans (hown _ hI0).symm
              rw [eq0]
              rcases List.mem_append.mp hp with hp | hp
              · exact Nat.ne_of_gt (Nat.lt_of_lt_of_le hi012 (hnw2 p hp).2)
              rcases List.mem_append.mp hp with hp | hp
              · exact Nat.ne_of_gt (Nat.lt_of_lt_of_le hi0 (hnw1 p hp).2)
              · exact hno p hp _ hI0
            · rw [List.append_assoc, List.append_assoc]; exact hT2
            · rw [List.append_assoc, List.append_assoc, List.take_add_one, hnm, Option.toList_some, List.flatMap_append, List.flatMap_cons, List.flatMap_nil, List.append_nil, Array.toList_append, ← List.append_assoc (List.flatMap _ _)]
              exact paired_append (RulesG.mono hR' fun b o h => List.mem_append_right _ (List.mem_append_right _ h)) hRu
      · rintro h₆ tk₆ m₆ oc₆ v₆ news₆ F₆ N₆ hd₆ hcn₆ ⟨rs, n, ps', nr, u2, u3, rfl, hnr, hno, hT', hR', rfl⟩
        have e0 : (namesL i).take ys.size = namesL i := by
          have h2 := hys.length
          rw [Array.length_toList] at h2
          rw [h2, List.take_length]
        rw [e0] at hR'
        iterate 2 walk1
        refine TurnEnd.next (news₂ := (R, W.listOf rs n) :: (L + 1 + 1, oc₆) :: (L + 1, ow) :: (70, tabObj ps') :: nr) F₆ (news_sub N₆ ?_) ?_ ?_
        · intro p hp
          simp only [List.mem_cons, List.mem_append, List.cons_append] at hp ⊢
          rcases hp with h | h | h | h | h | h <;> simp [h]
        · intro p hp
          rcases List.mem_cons.mp hp with rfl | hp
          · have q := hne _ (List.Mem.head _)
            exact q
          rcases List.mem_cons.mp hp with rfl | hp
          · exact hne (L + 1 + 1, on') (.tail _ (.head _))
          rcases List.mem_cons.mp hp with rfl | hp
          · exact hne (L + 1, ow) (.tail _ (.tail _ (.head _)))
          rcases List.mem_cons.mp hp with rfl | hp
          · have q := hne _ (List.Mem.tail _ (List.Mem.tail _ (List.Mem.tail _ (List.Mem.head _))))
            exact q
          · exact hno p hp _ hI0
        · refine ⟨rs, n, oc₆, v₆, ps', nr, _, _, _, rfl, hd₆, hnr, hT', ?_, map5 rfl rfl rfl rfl rfl fun z h1 h2 h3 h4 h5 => by simp only [if_neg h1, if_neg h2, if_neg h3, if_neg h4, if_neg h5]⟩
          rw [List.range_succ, List.flatMap_append, List.flatMap_cons, List.flatMap_nil, List.append_nil]
          have e1 : rulesAt word turn i = (namesL i).flatMap (ruleOf word turn i) := by unfold rulesAt; rw [if_pos hw]
          rw [e1]; exact hR'
    · refine W.ite_neg (fun h => hw (of_decide_eq_true h)) ?_
      iterate 3 walk1
      refine TurnEnd.next (by assumption) (by assumption) hne ?_
      refine ⟨rs, n, on', vn, ps', nr, _, u2, u3, rfl, hon', hnr, hT', ?_, map5 rfl rfl rfl rfl rfl fun z h1 h2 h3 h4 h5 => by simp only [if_neg h1, if_neg h2, if_neg h3, if_neg h4, if_neg h5]⟩
      rw [List.range_succ, List.flatMap_append, List.flatMap_cons, List.flatMap_nil, List.append_nil]
      have e0 : rulesAt word turn i = [] := by unfold rulesAt; rw [if_neg hw]
      rw [e0, List.append_nil]; exact hR'
  · rintro h₅ tk₅ m₅ news₅ F₅ N₅ ⟨rs, n, on', vn, ps', nr, u1, u2, u3, rfl, hon', hnr, hT', hR', rfl⟩
    have hRg := N₅ _ (.head _)
    have hsz : rs.size ≤ 512 := by
      have e1 := hR'.length
      rw [Array.length_toList] at e1
      have b1 := rulesTo_length word turn word.length
      have b5 : 2 ^ word.length ≤ 2 ^ 8 := Nat.pow_le_pow_right (by omega) (by omega)
      omega
    iterate 11 walk1
    refine len_list ⟨_, hRg.1, rfl, n, rfl⟩ (by omega) ?_
    iterate 10 walk1
    (with_reducible rename Fr _ _ _ _ => F₆)
    (with_reducible rename News _ _ _ _ => N₆)
    refine entry_spec gb F₆ N₆ (by show A.depth + 1 + 1 < _; omega) ?_
    intro x dx l1 l2 t1 t2 t3 t4 h₇ tk₇ F₇ N₇ q1 q2 q3 q4
    have hc0 : 0 ≤ turn.fmod ((rs.size : Int) + 1) := Int.fmod_nonneg_of_pos _ (by omega)
    have hc1 : turn.fmod ((rs.size : Int) + 1) < (rs.size : Int) + 1 := Int.fmod_lt_of_pos _ (by omega)
    obtain ⟨cN, hcN⟩ := Int.eq_ofNat_of_zero_le hc0
    rw [hcN] at F₇ hc1
    iterate 11 walk1
    (with_reducible rename Fr _ _ _ _ => F₈)
    (with_reducible rename News _ _ _ _ => N₈)
    refine kmk_slice F₈ N₈ ⟨_, (N₈ _ (.tail _ (.tail _ (.tail _ (.tail _ (.head _)))))).1, rfl, n, rfl⟩ (.int _ _) .none ?_ (by with_unfolding_all rfl) (by intro _; rfl) (by rw [sizeLine_eq]; omega)
    intro D1 h₉ F₉ N₉ lD1
    rw [slicePick_from'] at N₉
    clear F₈ N₈
    iterate 7 walk1
    refine kmk_slice F₉ N₉ ⟨_, (N₉ _ (.tail _ (.tail _ (.tail _ (.tail _ (.tail _ (.head _))))))).1, rfl, n, rfl⟩ .none (.int _ _) ?_ (by with_unfolding_all rfl) (by intro _; rfl) (by rw [sizeLine_eq]; omega)
    intro D2 h₁₀ F₁₀ N₁₀ lD2
    rw [slicePick_upto'] at N₁₀
    clear F₉ N₉
    refine add_arrays F₁₀ N₁₀ ⟨_, (N₁₀ _ (.tail _ (.head _))).1, rfl, _, rfl⟩ ⟨_, (N₁₀ _ (.head _)).1, rfl, _, rfl⟩ ?_ (by rw [sizeLine_eq]; simp only [List.size_toArray, List.length_drop, List.length_take, Array.length_toList]; omega)
    intro h₁₁ F₁₁ N₁₁
    walk1
    have lD3 := fun p hp => Heap.lt_size (N₁₀ p hp).1
    dsimp only at N₁₁ lD3 ⊢
    generalize h₁₀.objs.size = D3 at N₁₁ lD3 ⊢
    have N₁₂ : News B L h₁₁ ((dx, dictOf (es4 w l1 l2 t1 t2 t3 t4) 4) :: (D3, { cls := .type "list", data := .seq (List.drop cN rs.toList ++ List.take cN rs.toList).toArray }) :: (x, instObj 59 dx) :: (70, tabObj ps') :: nr) := news_sub N₁₁ (by
      intro p hp
      simp only [List.mem_cons] at hp ⊢
      rcases hp with h | h | h | h | h
      · exact .inr (.inr (.inr (.inr (.inr (.inr (.inl h))))))
      · exact .inl h
      · exact .inr (.inr (.inr (.inr (.inr (.inl h)))))
      · exact .inr (.inr (.inr (.inr (.inr (.inr (.inr (.inr (.inr (.inr (.inl h))))))))))
      · exact .inr (.inr (.inr (.inr (.inr (.inr (.inr (.inr (.inr (.inr (.inr h)))))))))))
    have hdD : @LT.lt Nat _ dx D3 := lD3 (dx, _) (.tail _ (.tail _ (.tail _ (.tail _ (.tail _ (.head _))))))
    have hd70 : @LT.lt Nat _ 70 dx := q1 (70, tabObj ps') (.tail _ (.tail _ (.tail _ (.head _))))
    have hRd : @LT.lt Nat _ R dx := q1 _ (.head _)
    have hndx : ∀ p ∈ nr, @LT.lt Nat _ p.1 dx := fun p hp => q1 p (.tail _ (.tail _ (.tail _ (.tail _ hp))))
    refine' set_dict F₁₁ gb.X N₁₂ ⟨(N₁₂ _ (.tail _ (.tail _ (.head _)))).1, rfl, rfl, (N₁₂ _ (.head _)).1⟩ rfl ?hs ?hp ?ht ?hh ?hl rfl (Upd.head ?ne) ?hz ?_
    case hs => k_is
    case hp => k_is
    case ht => k_is
    case hh => k_is
    case hl => rfl
    case ne =>
      intro p hp
      rcases List.mem_cons.mp hp with rfl | hp
      · exact Nat.ne_of_gt hdD
      rcases List.mem_cons.mp hp with rfl | hp
      · exact Nat.ne_of_gt q2
      rcases List.mem_cons.mp hp with rfl | hp
      · exact Nat.ne_of_lt hd70
      · exact Nat.ne_of_lt (hndx p hp)
    case hz => exact Nat.le_of_ble_eq_true rfl
    intro h₁₃ F₁₃ N₁₃
    iterate 4 walk1
    have ex := (N₁₃ _ (.tail _ (.tail _ (.head _)))).1
    have ed := (N₁₃ _ (.head _)).1
    have eD := (N₁₃ _ (.tail _ (.head _))).1
    have e70 := (N₁₃ _ (.tail _ (.tail _ (.tail _ (.head _))))).1
    have en : ∀ p ∈ nr, h₁₃.get? p.1 = some p.2 := fun p hp => (N₁₃ p (.tail _ (.tail _ (.tail _ (.tail _ hp))))).1
    dsimp only at ex ed eD e70
    have hLR : @LT.lt Nat _ L R := by omega
    refine ret x h₁₃ _ ps' ((x, instObj 59 dx) :: (dx, dictOf
        (putL (Str.ofString "rulelines") (PyData.keyHash w.params (Str.ofString "rulelines"))
          (Value.str (Str.ofString "rulelines") (tk₇ + 1 + 1)) (Value.ref D3) (es4 w l1 l2 t1 t2 t3 t4))
        (putN (Str.ofString "rulelines") (es4 w l1 l2 t1 t2 t3 t4) 4)) :: (D3, { cls := Value.type "list", data := Data.seq (List.drop cN rs.toList ++ List.take cN rs.toList).toArray }) :: nr) (fun b o hb' e => F₁₃.keep b o (hb b o hb' e)) e70 ?m1 ?m2 ?m3
    case m1 =>
      intro p hp
      rcases List.mem_cons.mp hp with rfl | hp
      · exact ⟨ex, by dsimp only; omega⟩
      rcases List.mem_cons.mp hp with rfl | hp
      · exact ⟨ed, by dsimp only; omega⟩
      rcases List.mem_cons.mp hp with rfl | hp
      · exact ⟨eD, by dsimp only; omega⟩
      · have := hnr p hp
        exact ⟨en p hp, by omega⟩
    case m2 =>
      refine hT'.mono fun b o h => ?_
      have h' : (b, o) ∈ nr ++ kn := h
      exact List.Mem.tail _ (List.Mem.tail _ (List.Mem.tail _ h'))
    case m3 =>
      have hlenR : rs.size = (rulesW word turn).length := by
        have e1 := hR'.length
        rw [Array.length_toList] at e1
        exact e1
      have ec : (turn.fmod (((rulesW word turn).length : Int) + 1)).toNat = cN := by rw [← hlenR, hcN]; rfl
      refine ⟨_, dx, _, D3, _, _, 0, List.Mem.head _, rfl, rfl, rfl, List.Mem.tail _ (List.Mem.head _), rfl, rfl, List.Mem.tail _ (List.Mem.tail _ (List.Mem.head _)), rfl, rfl, ?_⟩
      show RulesG w _ (List.drop cN rs.toList ++ List.take cN rs.toList) (rotW word turn)
      unfold rotW
      rw [ec]
      refine paired_append (paired_drop (RulesG.mono hR' ?_) cN) (paired_take (RulesG.mono hR' ?_) cN)
      · exact fun b o h => List.Mem.tail _ (List.Mem.tail _ (List.Mem.tail _ h))
      · exact fun b o h => List.Mem.tail _ (List.Mem.tail _ (List.Mem.tail _ h))
end
end Mine

end
section
open PySem PySem.W PyProof.Rows
open PySem.Sem (wp)
set_option Elab.async false
set_option maxRecDepth 100000
set_option maxHeartbeats 4000000
namespace Mine
theorem offV2 : True := by
  w_top off
  trivial
/-- a bytearray's object -/
def baObj (b : Array UInt8) : Obj := { cls := .type "bytearray", data := .bytearray b }
section
variable {prog : Program} {w : World} {A : Around} {s : Shared} {E : Value → Shared → Prop}
theorem code_ba_new (a : Value) {Q₁ : Value → Shared → Prop}
    (h : Q₁ (.ref s.heap.objs.size) { s with heap := s.heap.push (baObj #[]) }) :
    codeAny (model prog w) A (.call (.builtin "bytearray.__new__") ⟨[.type "bytearray", a], []⟩) (wants Q₁ E) s := by
  refine codeAny_of_tree ?_
  show wpAny _ A.in1 (do checkBuiltinCall "bytearray.__new__" ⟨[.type "bytearray", a], []⟩; again (.builtin "bytearray.__new__" ⟨[.type "bytearray", a], []⟩)) _ _ s
  refine wpAny_bind (wpAny_of_eq (F.ba_newCall a) (wpAny_pure ⟨plainId_quiet F.ba_plain _, codeAny_builtin_stack F.ba_entry_new rfl fun p st => ?_⟩))
  rw [Around.under_plainId F.ba_plain _]
  have hsub := F.ba_sub
  have hown := owner_ba_new
  obtain ⟨hp, g, d, tk, os⟩ := s
  simp only [hown]
  wp_walk
  exact h
theorem ba_write {a : Addr} {b : Array UInt8} {f : Array UInt8 → Array UInt8} {Q : Unit → Shared → Prop} (ho : s.heap.get? a = some (baObj b)) (hz : (f b).size ≤ 1000)
    (h : ∀ h', h'.get? a = some (baObj (f b)) → Heap.SameBut a s.heap h' → Q () { s with heap := h' }) :
    wpAny (model prog w) A (Builtin.Bytes.write (.ref a) f) Q E s := by
  show wpAny _ _ (updateBytearray a f) _ _ _
  unfold updateBytearray
  refine wpAny_bind (wpAny_load ho ?_)
  show wpAny _ _ (update a (Obj.mapBytearray f) >>= fun _ => lookBehind a) _ _ _
  refine wpAny_bind (wpAny_update ho ?_)
  have hS' := Heap.get?_update_self (Obj.mapBytearray f) ho rfl
  refine wpAny_lookBehind hS' ?_ (h _ hS' (Heap.SameBut.update ..))
  show (Data.bytearray (f b) _).pastItsLine = none
  unfold Data.pastItsLine
  show (if (f b).size > sizeLine then _ else _) = none
  rw [if_neg (by rw [sizeLine_eq]; omega)]
theorem sameRef_exports {a : Addr} {b : Array UInt8} {Q : Nat → Shared → Prop} (ho : s.heap.get? a = some (baObj b)) (h : Q 0 s) : wpAny (model prog w) A (Builtin.Bytes.exportsOf (.ref a)) Q E s := by
  show wpAny _ _ (load a >>= _) _ _ _
  refine wpAny_bind (wpAny_load ho ?_)
  exact wpAny_pure h
theorem ba_ownRelease {a : Addr} {b : Array UInt8} {Q : Bool → Shared → Prop} (ho : s.heap.get? a = some (baObj b)) (h : Q false s) : wpAny (model prog w) A (Builtin.Bytes.ownRelease (.ref a)) Q E s := by
  have hT : s.TypeIs (.ref a) "bytearray" := ⟨_, ho, rfl⟩
  unfold Builtin.Bytes.ownRelease Builtin.Bytes.slotIsOwn
  refine wpAny_bind (wpAny_bind (wpAny_specialOf hT F.ba_release ?_))
  have e : ("bytearray.__release_buffer__".endsWith ("." ++ "__release_buffer__")) = true := by decide +kernel
  have e2 : "bytearray.__release_buffer__".dropRight ("__release_buffer__".length + 1) = "bytearray" := by decide +kernel
  simp only [e, e2, Bool.not_true]
  rw [if_neg Bool.false_ne_true]
  refine wpAny_isInstance hT F.ba_sub ?_
  exact wpAny_pure h
theorem ba_init {a : Addr} {n : Nat} {t : Tok} {Q : Shared → Prop} (hg : A.guards = some []) (hn : n ≤ 1000) (ho : s.heap.get? a = some (baObj #[]))
    (h : ∀ h', h'.get? a = some (baObj (Array.replicate n 0)) → Heap.SameBut a s.heap h' → Q { s with heap := h' }) :
    wpR (model prog w) A.in1.in1 (Builtin.«bytearray.__init__» ⟨[.ref a, .int (n : Int) t], []⟩)
      (fun fin s' => match fin with | .done f => (Except.ok f : Result) = .ok (.ret .none) ∧ Q s' | .again c' => c'.quiet = true ∧ isDec c' = false ∧ codeR (model prog w) A.in1 c' (fun r s₂ => r = .ok (.ret .none) ∧ Q s₂) s')
      (fun e s' => (Except.error e : Result) = .ok (.ret .none) ∧ Q s') s := by
  unfold Builtin.«bytearray.__init__»
  refine wpR_any_bind (ba_ownRelease ho ?_)
  rw [if_neg Bool.false_ne_true, F.ba_bind, pure_bind]
  show wpR _ _ (Builtin.Bytes.checkCodecArg _ _ _ none >>= fun _ => Builtin.Bytes.checkCodecArg _ _ _ none >>= _) _ _ _
  refine wpR_any_bind (wpAny_of_eq rfl ?_)
  refine wpR_any_bind (wpAny_of_eq rfl ?_)
  refine wpR_bind (wpR_bind (wpR_exported hg ?_))
  refine wpR_of ?_
  show wpAny _ _ (Builtin.Bytes.exportsOf (.ref a) >>= _) _ _ _
  refine wpAny_bind (sameRef_exports ho (wpAny_pure ?_))
  dsimp only
  refine wpR_of ?_
  refine bm_if_false (c := decide ((0:Nat) > 0)) rfl ?_
  refine wpAny_bind (ba_write ho (by simp) fun h₁ ho₁ hs₁ => ?_)
  have e1 : asStr? (.int (n : Int) t) = pure none := rfl
  have e2 : asIndex (.int (n : Int) t) = pure (n : Int) := rfl
  have e3 : Builtin.Bytes.fitsIndex (n : Int) = true := by unfold Builtin.Bytes.fitsIndex; simp; omega
  have e4 : ¬ (n : Int) < 0 := by omega
  have e5 : ((n : Int) == 2 ^ 63 - 1) = false := beq_eq_false_iff_ne.mpr (by omega)
  have e6 : Builtin.Bytes.tooLong (n : Int).toNat = false := by unfold Builtin.Bytes.tooLong; rw [Int.toNat_natCast]; exact decide_eq_false (by rw [sizeLine_eq]; omega)
  simp only [e1, pure_bind, Option.isSome_none, Bool.false_eq_true, if_false]
  have e7 : specialOf (.int (n : Int) t) (Str.ofString "__index__") = pure (some (.builtin "int.__index__")) := by
    show (typeOf (.int (n : Int) t) >>= fun v => typeLookup v (Str.ofString "__index__")) = _
    have : typeOf (.int (n : Int) t) = pure (.type "int") := rfl
    rw [this, pure_bind]
    exact F.int_index
  rw [e7, pure_bind]
  simp only [Option.isSome_some, if_true]
  rw [e2]
  have e8 : (pure (n : Int) : Sem Int).attempt = pure (.ok (n : Int)) := rfl
  rw [e8, pure_bind]
  simp only [e3, e5, e6, if_neg e4, Bool.not_true, Bool.false_eq_true, if_false]
  refine wpAny_bind (wpAny_rule ?_)
  by_cases hz : (n : Int) > 0
  · rw [if_pos hz]
    refine wpAny_bind (ba_write ho₁ (by simp; omega) fun h₂ ho₂ hs₂ => ?_)
    refine wpAny_pure ⟨rfl, ?_⟩
    exact h h₂ (by rw [Int.toNat_natCast] at ho₂; exact ho₂) (hs₁.trans hs₂)
  · rw [if_neg hz]
    refine wpAny_pure ⟨rfl, ?_⟩
    have : n = 0 := by omega
    subst this
    exact h h₁ ho₁ hs₁
theorem wpR_new_bytearray {n : Nat} {t : Tok} {Q : Value → Shared → Prop} (hg : A.guards = some []) (hn : n ≤ 1000)
    (h : ∀ a h' tk, @LE.le Nat _ s.heap.objs.size a → h'.get? a = some (baObj (Array.replicate n 0)) → (∀ b o, s.heap.get? b = some o → h'.get? b = some o) → Q (.ref a) { s with heap := h', toks := tk }) :
    wpR (model prog w) A (call (.type "bytearray") [.int (n : Int) t]) Q E s := by
  refine wpR_call (codeR_of_tree ?_)
  show wpR _ _ (callAny (.type "bytearray") _) _ _ _
  refine wpR_pure ⟨Code.quiet_builtin _ (by decide +kernel), (by show Builtin.Bytes.decodersThatHold.contains "type.__call__" = false; decide +kernel), codeR_builtin F.entry_type_call ?_⟩
  rw [Around.under_plain (weight_type_call_type "bytearray" _ []) rfl]
  unfold Builtin.«type.__call__»
  have h1 := F.ba_called.notType
  have h2 := F.ba_called.canCreate
  have hmade := F.ba_called.made
  simp only [h1, h2, F.ba_typeCall, F.ba_mro, hmade, pure_bind]
  rw [if_neg Bool.false_ne_true, if_neg Bool.false_ne_true, if_neg (by decide)]
  refine wpR_any_bind (wpAny_holding (wpAny_call ?_))
  refine codeAny_mono (code_ba_new (Q₁ := fun v s₁ => v = .ref s.heap.objs.size ∧ s₁ = { s with heap := s.heap.push (baObj #[]) }) (E := fun _ _ => False) _ ⟨rfl, rfl⟩) fun r s₁ hr => ?_
  cases r with
  | error e => exact hr.elim
  | ok fl =>
    cases fl with
    | ret obj =>
      obtain ⟨rfl, rfl⟩ := hr
      have ho : (s.heap.push (baObj #[])).get? s.heap.objs.size = some (baObj #[]) := Heap.get?_push_size _ rfl
      generalize hs1 : s.heap.objs.size = a at ho ⊢
      generalize hH : s.heap.push (baObj #[]) = H at ho ⊢
      have hkeep : ∀ b o, s.heap.get? b = some o → H.get? b = some o ∧ b ≠ a := fun b o e => ⟨hH ▸ Heap.get?_push_of_some _ e, hs1 ▸ Nat.ne_of_lt (Heap.lt_size e)⟩
      have hT : Shared.TypeIs { s with heap := H } (.ref a) "bytearray" := ⟨_, ho, rfl⟩
      refine wpR_any_bind (wpAny_isInstance hT F.ba_sub ?_)
      rw [if_neg (by decide)]
      unfold callSpecial?
      refine wpR_bind (wpR_holding (wpR_any_bind (wpAny_specialOf hT F.ba_slot_init.lookup ?_)))
      refine wpR_holding ?_
      rw [F.ba_slot_init.bind, pure_bind]
      refine wpR_bind (wpR_mono (Q := fun v s₂ => v = .none ∧ Q (.ref a) s₂) (E := fun _ _ => False) (wpR_call ?_) ?_ (fun _ _ q => q.elim))
      · refine codeR_mono (codeR_call_builtin (R := fun r s₂ => r = .ok (.ret .none) ∧ Q (.ref a) s₂) F.ba_slot_init.plain (by show Builtin.Bytes.decodersThatHold.contains "bytearray.__init__" = false; decide +kernel) F.ba_entry_init
          (F.ba_slot_init.check _ _ _ _ _ _ _ _ hT (F.ba_args_init _ _) ?_)) ?_
        · exact ba_init hg hn ho fun h' hh hs => h a h' _ (Nat.le_of_eq hs1) hh fun b o e => hs.extBut b o (hkeep b o e).2 (hkeep b o e).1
        · rintro r s₂ ⟨rfl, q⟩
          exact ⟨rfl, q⟩
      · rintro v s₂ ⟨rfl, q⟩
        refine wpR_pure ?_
        show wpR _ _ (if (Value.none != Value.none) = true then _ else _) _ _ _
        rw [if_neg (by decide)]
        exact wpR_pure q
    | _ => exact hr.elim
end
end Mine

end
section
open PySem PySem.W PyProof.Rows
open PySem.Sem (wp)
set_option Elab.async false
set_option maxRecDepth 100000
set_option maxHeartbeats 4000000
namespace Mine
theorem offV3 : True := by
  w_top off
  trivial
theorem seqIdx_nat {i n : Nat} (hi : i < n) : seqIndex? (i : Int) n = some i := by
  unfold seqIndex?
  have h1 : ¬ (i : Int) < 0 := by omega
  have h2 : (i : Int) < (n : Int) := by omega
  have h3 : (0 : Int) ≤ (i : Int) := by omega
  simp only [if_neg h1, decide_eq_true h2, decide_eq_true h3, Bool.and_self, if_true, Int.toNat_natCast]
section
variable {prog : Program} {w : World} {A : Around} {s : Shared} {E : Value → Shared → Prop}
theorem setItem_ba {a : Addr} {b : Array UInt8} {k x : Nat} {t u : Tok} {Q : Unit → Shared → Prop} (ho : s.heap.get? a = some (baObj b)) (hz : b.size ≤ 1000) (hk : k < b.size) (hx : x < 256)
    (h : ∀ h', h'.get? a = some (baObj (b.setIfInBounds k x.toUInt8)) → Heap.SameBut a s.heap h' → Q () { s with heap := h' }) :
    wpAny (model prog w) A (setItem (.ref a) (.int (k : Int) t) (.int (x : Int) u)) Q E s := by
  have hT : s.TypeIs (.ref a) "bytearray" := ⟨_, ho, rfl⟩
  unfold setItem
  refine wpAny_holding ?_
  refine wpAny_bind (wpAny_sequenceKey hT (by decide) ?_)
  refine wpAny_bind (wpAny_callSpecial?_slot (name := Str.ofString "__setitem__") hT F.ba_slot_setitem
    (wpAny_call_entry F.ba_slot_setitem hT F.ba_entry_setitem ?_ (F.ba_args_setitem _ _ _)))
  unfold Builtin.«bytearray.__setitem__»
  show wpAny _ _ (Builtin.Bytes.subscript? (.int (k : Int) t) >>= _) _ _ _
  have e0 : specialOf (.int (k : Int) t) (Str.ofString "__index__") = pure (some (.builtin "int.__index__")) := by
    show (typeOf (.int (k : Int) t) >>= fun v => typeLookup v (Str.ofString "__index__")) = _
    have : typeOf (.int (k : Int) t) = pure (.type "int") := rfl
    rw [this, pure_bind]
    exact F.int_index
  have e1 : Builtin.Bytes.fitsIndex (k : Int) = true := by unfold Builtin.Bytes.fitsIndex; simp; omega
  have e2 : Builtin.Bytes.subscript? (.int (k : Int) t) = pure (some (k : Int)) := by
    unfold Builtin.Bytes.subscript?
    have : asIndex (.int (k : Int) t) = pure (k : Int) := rfl
    simp only [e0, this, pure_bind, e1, Bool.not_true, Bool.false_eq_true, if_false, Option.isNone_some]
  have e3 : Builtin.Bytes.byteValue (.int (x : Int) u) = pure (x : Int).toNat.toUInt8 := by
    unfold Builtin.Bytes.byteValue
    have : asIndex (.int (x : Int) u) = pure (x : Int) := rfl
    have h1 : ¬ (x : Int) < 0 := by omega
    have h2 : ¬ (x : Int) ≥ 256 := by omega
    simp only [this, pure_bind, decide_eq_false h1, decide_eq_false h2, Bool.or_self, Bool.false_eq_true, if_false]
  rw [e2, pure_bind]
  dsimp only
  rw [e3, pure_bind]
  refine wpAny_bind ?_
  unfold Builtin.Bytes.payload Builtin.Bytes.payload?
  refine wpAny_bind (wpAny_bind (wpAny_load ho ?_))
  refine wpAny_pure (wpAny_pure ?_)
  rw [seqIdx_nat hk]
  dsimp only
  refine wpAny_bind (ba_write ho (by rw [Array.size_setIfInBounds]; exact hz) fun h₁ ho₁ hs₁ => ?_)
  rw [Int.toNat_natCast] at ho₁
  exact wpAny_bind (wpAny_pure (wpAny_pure ⟨_, rfl, wpAny_pure (h h₁ ho₁ hs₁)⟩))
theorem ba_buffer? {a : Addr} {b : Array UInt8} {id : String} {full : Bool} {Q : Option (Array UInt8) → Shared → Prop} (ho : s.heap.get? a = some (baObj b)) (h : Q (some b) s) : wpAny (model prog w) A (Builtin.Bytes.buffer? id (.ref a) full) Q E s := by
  have hT : s.TypeIs (.ref a) "bytearray" := ⟨_, ho, rfl⟩
  unfold Builtin.Bytes.buffer?
  refine wpAny_bind (wpAny_specialOf hT F.ba_buffer ?_)
  dsimp only
  unfold Builtin.Bytes.slotIsOwn
  refine wpAny_bind (wpAny_bind (wpAny_specialOf hT F.ba_buffer ?_))
  have e : ("bytearray.__buffer__".endsWith ("." ++ "__buffer__")) = true := by decide +kernel
  have e2 : "bytearray.__buffer__".dropRight ("__buffer__".length + 1) = "bytearray" := by decide +kernel
  simp only [e, e2, Bool.not_true]
  rw [if_neg Bool.false_ne_true]
  refine wpAny_isInstance hT F.ba_sub ?_
  refine bm_if_false rfl ?_
  refine wpAny_bind (wpAny_specialOf hT F.ba_buffer ?_)
  refine wpAny_bind (ba_ownRelease ho ?_)
  refine bm_if_false rfl ?_
  unfold Builtin.Bytes.payload Builtin.Bytes.payload?
  refine wpAny_bind (wpAny_bind (wpAny_bind (wpAny_load ho ?_)))
  exact wpAny_pure (wpAny_pure (wpAny_pure h))
theorem bytes_ba_new {a : Addr} {b : Array UInt8} {Q : Value → Shared → Prop} (ho : s.heap.get? a = some (baObj b)) (hz : b.size ≤ 1000)
    (h : ∀ t k, Q (.bytes b t) { s with toks := k }) :
    codeAny (model prog w) A (.call (.builtin "bytes.__new__") ⟨[.type "bytes", .ref a], []⟩) (wants Q E) s := by
  refine codeAny_of_tree ?_
  show wpAny _ A.in1 (do checkBuiltinCall "bytes.__new__" ⟨[.type "bytes", .ref a], []⟩; again (.builtin "bytes.__new__" ⟨[.type "bytes", .ref a], []⟩)) _ _ s
  refine wpAny_bind (wpAny_of_eq (PySem.F.bm_newCall _) (wpAny_pure ⟨plainId_quiet PySem.F.bm_plain _, codeAny_builtin PySem.F.bm_entry ?_⟩))
  rw [Around.under_plainId PySem.F.bm_plain _]
  have hT : s.TypeIs (.ref a) "bytearray" := ⟨_, ho, rfl⟩
  unfold Builtin.«bytes.__new__»
  refine wpAny_bind (wpAny_of_eq (a := true) rfl ?_)
  refine bm_if_false rfl ?_
  refine wpAny_bind (wpAny_of_eq PySem.F.bm_sub ?_)
  refine bm_if_false rfl ?_
  refine wpAny_bind (wpAny_of_eq (PySem.F.bm_bind _) ?_)
  refine wpAny_bind (wpAny_of_eq (a := ()) rfl ?_)
  refine wpAny_bind (wpAny_of_eq (a := ()) rfl ?_)
  refine bm_if_false rfl ?_
  refine wpAny_bind (wpAny_specialOf hT F.ba_no_bytes ?_)
  refine wpAny_bind (wpAny_bind ?_)
  show wpAny _ _ (load a >>= _) _ _ _
  refine wpAny_bind (wpAny_load ho ?_)
  refine wpAny_pure (wpAny_pure ?_)
  refine bm_if_false rfl ?_
  refine wpAny_bind (wpAny_specialOf hT F.ba_no_index ?_)
  refine bm_if_true rfl ?_
  first
    | show wpAny _ _ (Builtin.Bytes.buffer? "bytes.__new__" (.ref a) true >>= _) _ _ _
    | (refine wpAny_bind ?_; show wpAny _ _ (Builtin.Bytes.buffer? "bytes.__new__" (.ref a) true >>= _) _ _ _)
  refine wpAny_bind (ba_buffer? ho ?_)
  dsimp only
  refine wpAny_bind (wpAny_rule ?_)
  refine wpAny_bind (wpAny_mkBytes ?_ (by rw [sizeLine_eq]; omega))
  show wpAny _ _ (if (Value.type "bytes" == Value.type "bytes") = true then _ else _) _ _ _
  refine bm_if_true (by decide) ?_
  exact wpAny_pure (h _ _)
theorem call_bytes_ba {a : Addr} {b : Array UInt8} {Q : Value → Shared → Prop} (ho : s.heap.get? a = some (baObj b)) (hz : b.size ≤ 1000)
    (h : ∀ t k, Q (.bytes b t) { s with toks := k }) : wpAny (model prog w) A (call (.type "bytes") [.ref a]) Q E s := by
  refine callType_codes (Q₁ := fun obj s₁ => s₁.TypeIs obj "bytes" ∧ Q obj s₁) PySem.F.bm_called (PySem.F.bm_typeCall _) PySem.F.entry_object_init
    (bytes_ba_new ho hz fun t k => ⟨PySem.W.typeIs_bytes _ _ _, h t k⟩) fun obj s₁ h₁ => ?_
  exact ⟨h₁.1, PySem.F.args_object_init_2 obj _, object_init_meets PySem.F.bm_called.init.lookup PySem.F.bm_called.made (by decide) prog w A.in1 _ s₁ ⟨h₁.1, rfl, h₁.2⟩⟩
end
end Mine

end
section
open PySem PySem.W PySem.Spec PySem.Calls PyProof.Rows
open PySem.Sem (wp)
set_option Elab.async false
set_option maxRecDepth 100000
set_option maxHeartbeats 4000000
namespace Mine
theorem offV4 : True := by
  w_top off
  trivial
section
variable {prog : Program} {w : World} {A : Around} {s : Shared} {R : Result → Shared → Prop}
theorem codeR_func {body : List Stmt} {env : Env}
    (h : wpR (model prog w) (A.deeper env) (execs body env) (fun f s' => R (.ok (.ret (match f with | .ret v => v | _ => .none))) s') (fun _ _ => False) s) :
    codeR (model prog w) A (.func body env) R s := by
  refine codeR_of_tree ?_
  show wpR _ (A.deeper env) (do point; match ← (execs body env).onRaise (leaving env) with | .ret v => ret v | _ => ret .none) _ _ s
  refine wpR_any_bind (wpAny_point (wpR_bind (wpR_onRaise (wpR_mono h (fun f s' h' => ?_) fun _ _ h' => h'.elim))))
  cases f <;> exact wpR_pure h'
theorem codeR_call_function {a : Addr} {args : Args} {o : Obj} {fd : FuncData} {body : List Stmt} (hroom : A.depth < recursionLimit)
    (ho : s.heap.get? a = some o)
    (hd' : o.data = .func fd) (hco : fd.scope.isCoroutine = false) (hgen : fd.scope.isGenerator = false) (hbody : fd.body = .stmts body) (hcd : s.heap.CodeRec fd.code fd.qualname)
    (h : wpAny (model prog w) A.in1 (bindArgs fd args) (fun binds s₁ =>
      wpAny (model prog w) A.in1 (newFunctionEnv fd.scope fd.globals fd.closure binds (fd.qualname ++ ".<locals>.") (some a) fd.code none fd.builtins)
        (fun env s₂ => s₂.heap.NoLimit ∧ codeR (model prog w) A (.func body env) R s₂) (fun e s' => R (.error e) s') s₁) (fun e s' => R (.error e) s') s) :
    codeR (model prog w) A (.call (.ref a) args) R s := by
  refine codeR_of_tree ?_
  show wpR _ A.in1 (callAny (.ref a) args) _ _ s
  simp only [callAny]
  refine wpR_any_bind (wpAny_load ho ?_)
  obtain ⟨c, oc, vs, tq, hc, hoc, hdc, hq⟩ := hcd
  simp only [hd', callFunction, hco, hgen, hbody, hc]
  rw [hc] at h
  refine wpR_any_bind (m := field (.ref c) 1) (wpAny_field hoc hdc hq (wpR_any_bind (wpAny_pure ?_)))
  exact wpR_any_bind (wpAny_mono h (fun binds s₁ h₁ => wpR_any_bind (wpAny_mono h₁ (fun env s₂ h₂ => wpR_any_bind (wpAny_enterFrame h₂.1 hroom
    (wpR_pure ⟨rfl, rfl, h₂.2⟩))) fun _ _ h' => h')) fun _ _ h' => h')
end
section
variable {M : Model} {A : Around} {E : Value → Shared → Prop} {s : Shared} {env : Env}
theorem wpR_execs_cons {st : Stmt} {rest : List Stmt} {Q : Flow → Shared → Prop}
    (h : wpR M A (exec st env) (fun f s' => match f with | .next => wpR M A (execs rest env) Q E s' | f => Q f s') E s) :
    wpR M A (execs (st :: rest) env) Q E s := by
  rw [execs_cons]
  refine wpR_bind (wpR_mono h (fun f s' h' => ?_) fun _ _ x => x)
  cases f <;> first | exact h' | exact wpR_pure h'
theorem wpR_execs_any {st : Stmt} {rest : List Stmt} {Q : Flow → Shared → Prop}
    (h : wpAny M A (exec st env) (fun f s' => match f with | .next => wpR M A (execs rest env) Q E s' | f => Q f s') E s) :
    wpR M A (execs (st :: rest) env) Q E s := wpR_execs_cons (wpR_of h)
theorem wpR_Assign_Name {x : Str} {pos' : Pos} {value : Expr} {pos : Pos} {Q : Flow → Shared → Prop}
    (h : wpR M A (eval value env) (fun v s₁ => wpAny M A (storeName env x v) (fun _ => Q .next) E s₁) E s)
    (hs : swapsWith value (some (.Name x pos')) pos.line env = pure false := by rfl) :
    wpR M A (exec (.Assign [.Name x pos'] value pos) env) Q E s := fun Γ p hΓ g => by
  simp only [exec_Assign_Name env x pos' value pos hs, Sem.wp_bind', Sem.wp_cmd_standAt, Sem.wp_bindName, Sem.wp_pure']
  exact Sem.wp_mono M Γ _ (fun v _ s₁ h₁ => h₁ Γ _ hΓ) (fun _ _ _ h' => h') _ _ (h Γ _ hΓ g)
theorem callWithR_of {pos : Pos} {f : Value} {first : List Value} {Q : Value → Shared → Prop} {P : Heap → Prop} {args : List (Bool × Sem Value)} {keywords : List (Option Str × Sem Value)} (hplain : (args.any (·.1) || keywords.any (·.1.isNone)) = false)
    (hk : ∀ h, P h → ∃ k, (k = Keeper.frame ∨ k = Keeper.machine ∨ k = Keeper.boundFrame) ∧ Looks M h (keeperOf f) k)
    (h : wpAny M A (evalArgs f true args keywords) (fun a s₁ => P s₁.heap ∧ wpR M A (call f (first ++ a.pos) a.kw) Q E s₁) E s) : wpR M A (callWith pos f first args keywords) Q E s := by
  unfold callWith
  refine wpR_any_bind (wpAny_holding (wpAny_mono h (fun a s₁ h₁ => wpR_any_bind (wpAny_standAt ?_)) fun _ _ x => x))
  obtain ⟨k, hk', L⟩ := hk _ h₁.1
  simp only [hplain]
  refine wpR_any_bind (L.here ?_)
  have tail : ∀ {t : Sem Value}, wpR M A t Q E s₁ → wpR M A (t >>= fun r => holding [r] point >>= fun _ => pure r) Q E s₁ :=
    fun ht => wpR_bind (wpR_mono ht (fun r s₂ hr => wpR_any_bind (wpAny_holding (wpAny_point (wpR_pure hr)))) fun _ _ x => x)
  have marked (mk : Value) : wpR M A (callMarked mk f (first ++ a.pos) a.kw) Q E s₁ := by unfold callMarked; exact fun Γ p hΓ g => by rw [Sem.wp_keep]; exact h₁.2 Γ p hΓ g
  rcases hk' with rfl | rfl | rfl <;> dsimp only <;> first | exact tail h₁.2 | (split <;> first | exact tail h₁.2 | exact tail (marked _))
theorem callWithR_K {K : Frag} {pos : Pos} {f : Value} {first : List Value} {Q : Value → Shared → Prop} {e : Expr} {rest : List Expr} (hk : keepIn K f = true)
    (h : wpAny M A (spliced (backTo pos (starEach (e :: rest) env))) (fun vs s₁ => K.In s₁.heap ∧ wpR M A (call f (first ++ vs)) Q E s₁) E s)
    (he : starEach (e :: rest) env = (false, eval e env) :: starEach rest env := by rfl) (hplain : (backTo pos (starEach rest env)).any (·.1) = false := by rfl) :
    wpR M A (callWith pos f first (backTo pos (starEach (e :: rest) env)) []) Q E s := by
  rw [he] at h ⊢
  exact callWithR_of (by show ((false || (backTo pos (starEach rest env)).any (·.1)) || false) = false; rw [hplain]; rfl) (keeps_K hk) (evalArgs_plain h)
theorem callWithR_type {pos : Pos} {T : String} {first : List Value} {Q : Value → Shared → Prop} {e : Expr} {rest : List Expr}
    (h : wpAny M A (spliced (backTo pos (starEach (e :: rest) env))) (fun vs s₁ => wpR M A (call (.type T) (first ++ vs)) Q E s₁) E s)
    (he : starEach (e :: rest) env = (false, eval e env) :: starEach rest env := by rfl) (hplain : (backTo pos (starEach rest env)).any (·.1) = false := by rfl) :
    wpR M A (callWith pos (.type T) first (backTo pos (starEach (e :: rest) env)) []) Q E s := by
  rw [he] at h ⊢
  exact callWithR_of (P := fun _ => True) (by show ((false || (backTo pos (starEach rest env)).any (·.1)) || false) = false; rw [hplain]; rfl) (fun _ _ => ⟨.machine, .inr (.inl rfl), .now⟩) (evalArgs_plain (wpAny_mono h (fun _ _ q => ⟨trivial, q⟩) fun _ _ x => x))
/-- a call by a name -/
theorem wpR_Call_Name {x : Str} {npos pos : Pos} {args : List Expr} {Q : Value → Shared → Prop}
    (h : wpAny M A (eval (.Name x npos) env) (fun f s₁ => wpR M A (callWith pos f [] (backTo pos (starEach args env)) []) Q E s₁) E s) :
    wpR M A (eval (.Call (.Name x npos) args [] pos) env) Q E s := by
  show wpR M A (eval (.Name x npos) env >>= fun f => callWith pos f [] (backTo pos (starEach args env)) (backToKw pos (keywordEach [] env))) Q E s
  exact wpR_any_bind h
end
section
variable {prog : Program} {w : World} {A : Around} {s : Shared} {E : Value → Shared → Prop} {Q : Value → Shared → Prop}
theorem enterR {name qual : Str} {params : Arguments} {body : List Stmt} {scope : Scope} {dV kV doc pm cdv ct oc : Value} {an od : Option Addr} {osl : Array (Option Value)} {f : Addr} {vs : List Value} {binds : List (Str × Value)}
    (g : Gd w s.heap) (ho : (hd.heap_39 w.params).lookup f = some ⟨oc, od, .func (fnOf name qual params body scope dV kV doc pm an cdv ct), osl⟩) (hcd : codeIn (hd.heap_39 w.params) cdv qual = true) (hroom : A.depth < recursionLimit)
    (hbind : bindArgs (fnOf name qual params body scope dV kV doc pm an cdv ct) ⟨vs, []⟩ = pure binds) (hloc : ∀ y ∈ binds, scope.names.lookup y.1 = some .local)
    (hcell : ∀ x ∈ scope.names, x.2 ≠ .cell) (hco : scope.isCoroutine = false) (hgen : scope.isGenerator = false) (hk : scope.kind = .function)
    (h : ∀ L h₁ tk, Fr s.heap L h₁ (fun y => binds.reverse.lookup y) →
      wpR (model prog w) (A.deeper (envOf qual scope L f cdv)) (execs body (envOf qual scope L f cdv)) (fun fl s' => Q (match fl with | .ret v => v | _ => .none) s') (fun _ _ => False)
        { s with heap := h₁, toks := tk }) : wpR (model prog w) A (call (.ref f) vs) Q E s := by
  obtain ⟨lo, mn, mg, mb, T⟩ := g.T
  refine wpR_call (codeR_call_function (fd := fnOf name qual params body scope dV kV doc pm an cdv ct) (body := body) hroom (g.X _ _ ho) rfl hco hgen rfl (codeRec_of g.X hcd) (BindsTo.of_eq hbind _ _ _ _ ?_))
  refine wpAny_newFunctionEnv hcell hloc (fun h₀ hns₀ hsb₀ => ⟨T.nolimit.fresh _ hsb₀, codeR_func ?_⟩) hk
  have hk₁ : ∀ b o, s.heap.get? b = some o → h₀.get? b = some o := fun b o e => hsb₀.extBut b o (Nat.ne_of_lt (Heap.lt_size e)) (Heap.get?_push_of_some _ e)
  exact wpR_mono (h _ h₀ _ ⟨hns₀, hk₁, Nat.le_refl _⟩) (fun _ _ q => q) fun _ _ q => q
theorem enterRC {name qual : Str} {params : Arguments} {body : List Stmt} {scope : Scope} {dV kV doc pm cdv ct oc : Value} {an od : Option Addr} {osl : Array (Option Value)} {f : Addr} {vs : List Value} {binds : List (Str × Value)}
    (g : Gd w s.heap) (ho : (hd.heap_39 w.params).lookup f = some ⟨oc, od, .func (fnOf name qual params body scope dV kV doc pm an cdv ct), osl⟩) (hcd : codeIn (hd.heap_39 w.params) cdv qual = true) (hroom : A.depth < recursionLimit)
    (hbind : bindArgs (fnOf name qual params body scope dV kV doc pm an cdv ct) ⟨vs, []⟩ = pure binds)
    (hkind : (binds.all fun y => scope.names.lookup y.1 == some .local || scope.names.lookup y.1 == some .cell) = true)
    (hnd : ((cellsFrom 0 scope.names []).map (·.1)).Nodup) (hco : scope.isCoroutine = false) (hgen : scope.isGenerator = false) (hk : scope.kind = .function)
    (h : ∀ L h₁ tk cells, Fr s.heap L h₁ (bindL (envOfC qual scope L f cdv).kindOf binds fun _ => none) → News s.heap L h₁ cells →
      CellsAre (bindC (envOfC qual scope L f cdv).kindOf binds fun _ => none) (cellsFrom (L + 1) scope.names []) cells →
      wpR (model prog w) (A.deeper (envOfC qual scope L f cdv)) (execs body (envOfC qual scope L f cdv)) (fun fl s' => Q (match fl with | .ret v => v | _ => .none) s') (fun _ _ => False)
        { s with heap := h₁, toks := tk }) : wpR (model prog w) A (call (.ref f) vs) Q E s := by
  obtain ⟨lo, mn, mg, mb, T⟩ := g.T
  refine wpR_call (codeR_call_function (fd := fnOf name qual params body scope dV kV doc pm an cdv ct) (body := body) hroom (g.X _ _ ho) rfl hco hgen rfl (codeRec_of g.X hcd) ((BindsTo.of_eq hbind) _ _ _ _ ?_))
  refine wpAny_newFunctionEnv_cells hk (kindsX hkind _) fun env' he s' x => ?_
  subst he
  refine ⟨(T.nolimit).keeps x.toInCall.keep, codeR_func ?_⟩
  obtain ⟨h₁, tk, rfl, _⟩ := x.done
  have hk₁ := x.toInCall.keep
  obtain ⟨cells, NC, Y⟩ := Cl.news (h₀ := s.heap) (Nat.le_refl _) fun n c hm => ⟨x.cell n c (lookup_of_mem_nodup (cellsFrom_names scope.names 0 (s.heap.objs.size + 1) [] [] rfl ▸ hnd) hm), x.above n c hm⟩
  exact wpR_mono (h s.heap.objs.size h₁ tk cells ⟨x.toInCall.ns, hk₁, Nat.le_refl _⟩ NC Y) (fun _ _ q => q) fun _ _ q => q
end
end Mine

end
section
open PySem PySem.W PySem.Spec PySem.Calls PyProof.Rows
set_option Elab.async false
set_option maxRecDepth 100000
set_option maxHeartbeats 4000000
namespace Mine
theorem offV5 : True := by
  w_top off
  trivial
theorem fillV5 : PySem.Challenge.rw_rl0017_01 = PySem.Challenge.rw_rl0017_01 ∧ hd.heap_39 = hd.heap_39 := by
  k_fill
  exact ⟨rfl, rfl⟩
section
variable {prog : Program} {w : World} {A : Around} {s : Shared} {E : Value → Shared → Prop} {Q : Value → Shared → Prop}
/-- b is l, each word of so many octets turned about -/
def SwapOf (l : List UInt8) (width n : Nat) (b : Array UInt8) : Prop :=
  b.size = n * width ∧ ∀ i < n, ∀ j < width, b[i * width + (width - 1 - j)]? = l[i * width + j]?
theorem range_stepN {n c : Nat} (hc : 0 < c) : Builtin.Range.rangeSize 0 ((n * c : Nat) : Int) (c : Int) = (n : Int) := by
  unfold Builtin.Range.rangeSize
  have h1 : (c : Int) > 0 := by omega
  rw [if_pos h1]
  cases n with
  | zero => simp
  | succ n =>
    have hp : (0 : Int) < (((n + 1) * c : Nat) : Int) := by
      have : 0 < (n + 1) * c := Nat.mul_pos (Nat.succ_pos _) hc
      omega
    rw [if_pos hp]
    have e : (((n + 1) * c : Nat) : Int) - 0 - 1 = ((c : Int) - 1) + (n : Int) * (c : Int) := by
      rw [Nat.succ_mul]; push_cast; omega
    rw [e, Int.add_mul_ediv_right _ _ (by omega), Int.ediv_eq_zero_of_lt (by omega) (by omega)]
    omega
theorem range_small {n c : Nat} (hc : 0 < c) (hc8 : c ≤ 8) (hn : n * c ≤ 512) : Builtin.Range.small 0 ((n * c : Nat) : Int) (c : Int) = true := by
  have hn' : n ≤ 512 := Nat.le_trans (Nat.le_mul_of_pos_right _ hc) hn
  unfold Builtin.Range.small
  rw [range_stepN hc]
  have h1 : (c : Int) > 0 := by omega
  simp only [Builtin.Range.rangeFitsLong, Bool.and_eq_true, Bool.or_eq_true, decide_eq_true_eq, beq_iff_eq, h1, if_true]
  omega
theorem upd_one {B h h' : Heap} {L : Addr} {m : Str → Option Value} {a : Addr} {o o' : Obj} {rest : List (Addr × Obj)} (F : Fr B L h m) (N : News B L h ((a, o) :: rest)) (hr : ∀ p ∈ rest, p.1 ≠ a) (ho : h'.get? a = some o') (hs : Heap.SameBut a h h') : Fr B L h' m ∧ News B L h' ((a, o') :: rest) := by
  have n := N (a, o) (.head _)
  refine ⟨⟨F.ns.sameBut hs (Ne.symm n.2.1), fun b o e => hs.extBut b o (fun q => by rw [q, n.2.2] at e; cases e) (F.keep b o e), F.above⟩, fun p hp => ?_⟩
  rcases List.mem_cons.mp hp with rfl | hp
  · exact ⟨ho, n.2⟩
  · have n' := N p (.tail _ hp)
    exact ⟨hs.extBut _ _ (hr p hp) n'.1, n'.2⟩
theorem swap_spec {l : List UInt8} {t u : Tok} {width n : Nat} (hw0 : 0 < width) (hw : width ≤ 8) (hn : n ≤ 64) (hl : l.length = n * width) (g : Gd w s.heap) (hd : A.depth < recursionLimit) (hh : A.handled = none) (hgd : A.guards = some [])
    (ret : ∀ b t' h' tk, s.heap.StaysIn h' → SwapOf l width n b → Q (.bytes b t') { s with heap := h', toks := tk }) :
    wpR (model prog w) A (call (.ref 21) [.bytes l.toArray t, .int (width : Int) u]) Q E s := by
  refine' enterR (binds := [(Str.ofString "data", .bytes l.toArray t), (Str.ofString "width", .int (width : Int) u)]) g ?ho ?hcd hd ?hb ?hl ?hce ?hco ?hg ?hk ?_
  case ho => k_is
  case hcd => k_is
  case hb => exact rfl
  case hl => exact locs rfl
  case hce => decide
  case hco => exact rfl
  case hg => exact rfl
  case hk => exact rfl
  intro L h₁ tk F
  have X := g.X
  obtain ⟨lo, mn, mg, mb, T⟩ := g.T
  have N : News s.heap L h₁ [] := News.nil
  refine wpR_execs_cons (wpR_Assign_Name (wpR_Call_Name ?_))
  walk1
  refine callWithR_type ?_
  have hnw : n * width ≤ 512 := Nat.mul_le_mul hn hw
  have hsz : l.toArray.size = n * width := hl
  iterate 7 walk1
  refine W.len_bytes (by omega) ?_
  walk1
  rw [hsz]
  refine wpR_new_bytearray (n := n * width) hgd (by omega) ?_
  intro a h₂ tk₂ ha hba k₂
  (with_reducible rename Fr _ _ _ _ => F)
  have F₂ := fr_kept F k₂
  have hane : s.heap.get? a = none := by
    cases e : s.heap.get? a with
    | none => rfl
    | some o => exact absurd (Heap.lt_size (F.keep _ _ e)) (Nat.not_lt.mpr ha)
  have haL : a ≠ L := fun e => absurd F.ns.lt (e ▸ Nat.not_lt.mpr ha)
  have N₂ : News s.heap L h₂ [(a, baObj (Array.replicate (n * width) 0))] := fun p hp => by
    rw [List.mem_singleton.mp hp]; exact ⟨hba, haL, hane⟩
  clear F N hba
  dsimp only
  walk1
  refine wpR_of ?_
  refine wpAny_execs_cons ?_
  refine For_invV s.heap rfl rfl ?_
  iterate 17 walk1
  (with_reducible rename IsRange _ _ _ _ _ _ _ _ => hr)
  (with_reducible rename Fr _ _ _ _ => F₃)
  (with_reducible rename News _ _ _ _ => N₃)
  rw [hsz] at hr
  refine loop_rangeO (A := A.deeper _) (n := n) hh hr (range_small hw0 (by omega) hnw) (range_stepN hw0) F₃ N₃ (fun i m news => ∃ b u1 u2, news = [(a, baObj b)] ∧ b.size = n * width ∧ (∀ i' < i, ∀ j < width, b[i' * width + (width - 1 - j)]? = l[i' * width + j]?) ∧
      m = fun z => if z = Str.ofString "i" then u1 else if z = Str.ofString "j" then u2 else if z = Str.ofString "swapped_data" then some (.ref a) else [(Str.ofString "data", Value.bytes l.toArray t), (Str.ofString "width", .int (width : Int) u)].reverse.lookup z) ?_ ?_ ?_
  · exact ⟨_, _, _, rfl, by simp, fun i' h => absurd h (Nat.not_lt_zero _), map3 rfl rfl rfl fun z h1 h2 h3 => by simp only [if_neg h3]⟩
  · rintro i ti m₁ news₁ h tk own hi ⟨b, u1, u2, rfl, hbs, hdone, rfl⟩ hne hown hIt F₄ N₄
    refine wpAny_execs_cons ?_
    refine For_invV s.heap rfl rfl ?_
    iterate 7 walk1
    (with_reducible rename IsRange _ _ _ _ _ _ _ _ => hr1)
    (with_reducible rename Fr _ _ _ _ => F₅)
    (with_reducible rename News _ _ _ _ => N₅)
    have haown : ∀ p ∈ own, p.1 ≠ a := fun p hp e => hne (a, baObj b) (.head _) (by rw [← hown p hp]; exact e.symm)
    refine loop_rangeO (A := A.deeper _) (n := width) hh hr1 (small_one (by omega) (by omega) (by omega) (by omega)) (by rw [rangeSize_one]; split <;> omega) F₅ N₅ (fun j m news => ∃ b u2, news = (a, baObj b) :: own ∧ b.size = n * width ∧ (∀ i' < i, ∀ j < width, b[i' * width + (width - 1 - j)]? = l[i' * width + j]?) ∧ (∀ j' < j, b[i * width + (width - 1 - j')]? = l[i * width + j']?) ∧
      m = fun z => if z = Str.ofString "j" then u2 else if z = Str.ofString "i" then some (.int (0 + (i : Int) * (width : Int)) ti) else if z = Str.ofString "swapped_data" then some (.ref a) else [(Str.ofString "data", Value.bytes l.toArray t), (Str.ofString "width", .int (width : Int) u)].reverse.lookup z) ?_ ?_ ?_
    · exact ⟨_, _, rfl, hbs, hdone, fun i' h => absurd h (Nat.not_lt_zero _), map3 rfl rfl rfl fun z h1 h2 h3 => by simp only [if_neg h1, if_neg h2, if_neg h3]⟩
    · rintro j tj m₁ news₁ h tk own1 hj ⟨b, u2, rfl, hbs, hdone, hdj, rfl⟩ hne1 hown1 hIt1 F₆ N₆
      iterate 8 walk1
      have hij : i * width + j < l.length := by
        rw [hl]
        have : (i + 1) * width ≤ n * width := Nat.mul_le_mul_right _ hi
        rw [Nat.succ_mul] at this
        omega
      have hik : i * width + (width - 1 - j) < b.size := by rw [hbs, ← hl]; rw [hl] at *; have : (i + 1) * width ≤ n * width := Nat.mul_le_mul_right _ hi; rw [Nat.succ_mul] at this; omega
      have eij : (0 + (i : Int) * (width : Int) + (0 + (j : Int) * 1)) = ((i * width + j : Nat) : Int) := by push_cast; omega
      have eik : (0 + (i : Int) * (width : Int) + (width : Int) - 1 - (0 + (j : Int) * 1)) = ((i * width + (width - 1 - j) : Nat) : Int) := by
        have : ((width - 1 - j : Nat) : Int) = (width : Int) - 1 - (j : Int) := by omega
        push_cast; rw [this]; omega
      rw [eij]
      refine tail_any (W.typeIs_bytes _ _ _) FB.slot_bytes_getitem.lookup (W.getItem_bytes (by omega) (by omega) (by omega) ?_) (by with_unfolding_all rfl)
      rw [Int.toNat_natCast]
      iterate 11 walk1
      (with_reducible rename Fr _ _ _ _ => F₇)
      (with_reducible rename News _ _ _ _ => N₇)
      rw [eik]
      have N₇' : News s.heap L _ ((a, baObj b) :: (own ++ own1)) := N₇
      have hrest : ∀ p ∈ own ++ own1, p.1 ≠ a := fun p hp => by
        rcases List.mem_append.mp hp with hp | hp
        · exact haown p hp
        · exact fun e => hne1 (a, baObj b) (.head _) (by rw [← hown1 p hp]; exact e.symm)
      have hlj : l[i * width + j]? = some (l.getD (i * width + j) 0) := by
        rw [List.getElem?_eq_getElem hij, List.getD_eq_getElem?_getD, List.getElem?_eq_getElem hij]; rfl
      refine setItem_ba (N₇' _ (.head _)).1 (by omega) hik (UInt8.toNat_lt _) ?_
      intro h' ho' hs'
      obtain ⟨F₈, N₈⟩ := upd_one F₇ N₇' hrest ho' hs'
      clear F₇ N₇ N₇'
      generalize hb' : b.setIfInBounds (i * width + (width - 1 - j)) (l.getD (i * width + j) 0).toNat.toUInt8 = b' at ho' N₈
      have e8 : (l.getD (i * width + j) 0).toNat.toUInt8 = l.getD (i * width + j) 0 := by simp
      rw [e8] at hb'
      walk1
      refine TurnEnd.next (news₂ := (a, baObj b') :: own) F₈ N₈ ?_ ⟨b', _, rfl, ?_, ?_, ?_, map3 rfl rfl rfl fun z h1 h2 h3 => by simp only [if_neg h1, if_neg h2, if_neg h3]⟩
      · intro p hp
        rcases List.mem_cons.mp hp with rfl | hp
        · exact hne1 (a, baObj b) (.head _)
        · exact hne1 p (.tail _ hp)
      · rw [← hb', Array.size_setIfInBounds]; exact hbs
      · intro i' hi' j' hj'
        rw [← hb', Array.getElem?_setIfInBounds_ne]
        · exact hdone i' hi' j' hj'
        · have : (i' + 1) * width ≤ i * width := Nat.mul_le_mul_right _ hi'
          rw [Nat.succ_mul] at this
          omega
      · intro j' hj'
        by_cases hjj : j' = j
        · subst hjj
          rw [← hb', Array.getElem?_setIfInBounds_self_of_lt hik, hlj]
        · rw [← hb', Array.getElem?_setIfInBounds_ne (by omega)]
          exact hdj j' (by omega)
    · rintro h' tk' m' news' F' N' ⟨b, u2, rfl, hbs, hdone, hdj, rfl⟩
      walk1
      refine TurnEnd.next (news₂ := [(a, baObj b)]) F' N' (fun p hp => by rw [List.mem_singleton.mp hp]; have q := hne _ (List.Mem.head _); exact q) ⟨b, _, _, rfl, hbs, ?_, map3 rfl rfl rfl fun z h1 h2 h3 => by simp only [if_neg h1, if_neg h2, if_neg h3]⟩
      intro i' hi' j' hj'
      by_cases hii : i' = i
      · subst hii; exact hdj j' hj'
      · exact hdone i' (by omega) j' hj'
  · rintro h' tk' m' news' F' N' ⟨b, u1, u2, rfl, hbs, hdone, rfl⟩
    iterate 8 walk1
    refine call_bytes_ba (N' _ (.head _)).1 (by omega) fun t' k' => ?_
    exact ret b t' _ _ F'.keep ⟨hbs, hdone⟩
end
end Mine

end
section
open PySem PySem.W PySem.Spec PySem.Calls PyProof.Rows
set_option Elab.async false
set_option maxRecDepth 100000
set_option maxHeartbeats 4000000
namespace Mine
theorem offV6 : True := by
  w_top off
  trivial
theorem fillV6 : PySem.Challenge.rw_rl0017_01 = PySem.Challenge.rw_rl0017_01 ∧ hd.heap_39 = hd.heap_39 := by
  k_fill
  exact ⟨rfl, rfl⟩
/-- a text turned about -/
def revS (x : Str) : Str := ⟨x.cps.toList.reverse.toArray⟩
theorem rows_strs {vs : List Value} {xs : List Str} (h : StrsAre vs xs) : PyProof.Rows.StrsAre vs xs := by
  induction h with
  | nil => exact .nil
  | cons h _ ih => obtain ⟨t, rfl⟩ := h; exact .cons _ t ih
theorem ints_of {vs ds : List Value} {l : List Nat} (hlen : vs.length = l.length) (hP : ∀ (j : Nat) v, vs[j]? = some v → ∃ (c : Nat) (u : Tok), l[j]? = some c ∧ v = Value.str ⟨#[c]⟩ u)
    (hF : Paired (fun v y => ∃ c u t, v = Value.str ⟨#[c]⟩ u ∧ y = Value.int ((c : Nat) : Int) t) vs ds) : IntsAre ds (l.map fun (c : Nat) => (c : Int)) := by
  induction hF generalizing l with
  | nil =>
    have : l = [] := List.eq_nil_of_length_eq_zero hlen.symm
    subst this; exact .nil
  | cons h _ ih =>
    cases l with
    | nil => simp at hlen
    | cons c l =>
      obtain ⟨c', u, t, rfl, rfl⟩ := h
      obtain ⟨c2, u2, e1, e2⟩ := hP 0 (Value.str ⟨#[c']⟩ u) rfl
      simp at e1
      subst e1
      injection e2 with e2 _
      injection e2 with e2
      simp at e2
      subst e2
      exact .cons _ _ (ih (by simpa using hlen) fun j v hj => hP (j + 1) v (by simpa using hj))
theorem glue_fold : ∀ (r : List Str) (acc : Array Nat), (r.foldl (fun acc p => acc ++ (Str.ofString "").cps ++ p.cps) acc).toList = acc.toList ++ r.flatMap fun x => x.cps.toList
  | [], acc => by simp
  | x :: r, acc => by
    rw [List.foldl_cons, glue_fold r]
    have e : (Str.ofString "").cps = #[] := by decide
    rw [e, Array.append_empty, Array.toList_append, List.flatMap_cons, List.append_assoc]
theorem join_cps (xs : List Str) : (Txt.join (Str.ofString "") xs).cps.toList = xs.flatMap fun x => x.cps.toList := by
  unfold Txt.join Builtin.Str.glued
  rw [glue_fold]
  cases xs with
  | nil => decide
  | cons x r => rfl
theorem flat_len {xs : List Str} {w : Nat} (h : ∀ x ∈ xs, x.length = w) : (xs.flatMap fun x => x.cps.toList).length = xs.length * w := by
  induction xs with
  | nil => simp
  | cons x r ih =>
    have hx : x.cps.size = w := h x (.head _)
    rw [List.flatMap_cons, List.length_append, ih fun y hy => h y (.tail _ hy), List.length_cons, Nat.succ_mul, Array.length_toList, hx]
    omega
theorem sum_len {xs : List Str} {w : Nat} (h : ∀ x ∈ xs, x.length = w) : (xs.map (·.length)).sum = xs.length * w := by
  induction xs with
  | nil => simp
  | cons x r ih =>
    rw [List.map_cons, List.sum_cons, ih fun y hy => h y (.tail _ hy), List.length_cons, Nat.succ_mul, h x (.head _)]
    omega
theorem flat_get {w : Nat} : ∀ {xs : List Str} {j i : Nat} {x : Str} (_ : ∀ x ∈ xs, x.length = w) (_ : xs[j]? = some x) (_ : i < w), (xs.flatMap fun x => x.cps.toList)[j * w + i]? = x.cps.toList[i]?
  | [], j, i, x, _, hj, _ => by simp at hj
  | y :: r, 0, i, x, h, hj, hi => by
    simp at hj
    subst hj
    have hy : y.cps.toList.length = w := h y (.head _)
    rw [List.flatMap_cons, Nat.zero_mul, Nat.zero_add, List.getElem?_append_left (by omega)]
  | y :: r, j + 1, i, x, h, hj, hi => by
    have hy : y.cps.toList.length = w := h y (.head _)
    rw [List.flatMap_cons, List.getElem?_append_right (by rw [hy, Nat.succ_mul]; omega), hy, Nat.succ_mul]
    have e : j * w + w + i - w = j * w + i := by omega
    rw [e]
    exact flat_get (fun x hx => h x (.tail _ hx)) (by simpa using hj) hi
theorem swap_piece {xs : List Str} {w j : Nat} {x : Str} {z : List Nat} {b : Array UInt8} (hz : z = xs.flatMap fun x => x.cps.toList) (hl : ∀ x ∈ xs, x.length = w) (ha : ∀ c ∈ z, c < 128) (hb : SwapOf (z.map fun c => c.toUInt8) w xs.length b) (hj : xs[j]? = some x) :
    ((b.toList.drop (j * w)).take w).map (·.toNat) = x.cps.toList.reverse := by
  have hjl : j < xs.length := (List.getElem?_eq_some_iff.mp hj).1
  have hx : x.cps.toList.length = w := hl x (List.mem_of_getElem? hj)
  have hbs := hb.1
  have hjw : (j + 1) * w ≤ xs.length * w := Nat.mul_le_mul_right _ hjl
  rw [Nat.succ_mul] at hjw
  apply List.ext_getElem?
  intro m
  by_cases hm : m < w
  · have h1 := hb.2 j hjl (w - 1 - m) (by omega)
    have e1 : w - 1 - (w - 1 - m) = m := by omega
    rw [e1, List.getElem?_map, hz, flat_get hl hj (by omega)] at h1
    rw [List.getElem?_map, List.getElem?_take_of_lt hm, List.getElem?_drop, Array.getElem?_toList, h1, List.getElem?_reverse (by omega), hx]
    obtain ⟨c, hc⟩ : ∃ c, x.cps.toList[w - 1 - m]? = some c := ⟨_, List.getElem?_eq_getElem (by omega)⟩
    rw [hc, Option.map_some, Option.map_some]
    have hc128 : c < 128 := ha c (by rw [hz]; exact List.mem_flatMap.mpr ⟨x, List.mem_of_getElem? hj, List.mem_of_getElem? hc⟩)
    congr 1
    rw [Nat.toUInt8_eq, UInt8.toNat_ofNat']
    omega
  · rw [List.getElem?_eq_none (by simp; omega), List.getElem?_eq_none (by simp at hx ⊢; omega)]
theorem clip_at {n : Nat} {i : Int} {k : Nat} (h : i = (k : Int)) (hk : k ≤ n) : clipAt n i = k := by
  subst h
  unfold clipAt
  rw [if_neg (by omega)]
  omega
theorem strs_of {vs ds : List Value} {l : List Nat} (hlen : vs.length = l.length) (hP : ∀ (j : Nat) v, vs[j]? = some v → ∃ (c : Nat) (u : Tok), l[j]? = some c ∧ v = Value.int (c : Int) u)
    (hF : Paired (fun v y => ∃ (c : Nat) (u t : Tok), v = Value.int (c : Int) u ∧ y = Value.str ⟨#[c]⟩ t) vs ds) : StrsAre ds (l.map fun (c : Nat) => (⟨#[c]⟩ : Str)) := by
  induction hF generalizing l with
  | nil =>
    have : l = [] := List.eq_nil_of_length_eq_zero hlen.symm
    subst this; exact .nil
  | cons h _ ih =>
    cases l with
    | nil => simp at hlen
    | cons c l =>
      obtain ⟨c', u, t, rfl, rfl⟩ := h
      obtain ⟨c2, u2, e1, e2⟩ := hP 0 (Value.int (c' : Int) u) rfl
      simp at e1
      subst e1
      injection e2 with e2 _
      have e2 : c' = c := by omega
      subst e2
      exact .cons ⟨_, rfl⟩ (ih (by simpa using hlen) fun j v hj => hP (j + 1) v (by simpa using hj))
theorem paired_ix {α β γ : Type} {F : α → β → Prop} {G : β → γ → Prop} : ∀ {vs : List α} {ds : List β} {zs : List γ} (_ : Paired F vs ds) (_ : vs.length = zs.length) (_ : ∀ (j : Nat) v y z, vs[j]? = some v → zs[j]? = some z → F v y → G y z), Paired G ds zs
  | _, _, [], .nil, _, _ => .nil
  | _, _, z :: zs, .nil, hl, _ => by simp at hl
  | _, _, [], .cons _ _, hl, _ => by simp at hl
  | _, _, z :: zs, .cons hf t, hl, h => .cons (h 0 _ _ _ rfl rfl hf) (paired_ix t (by simpa using hl) fun j v y z e1 e2 => h (j + 1) v y z (by simpa using e1) (by simpa using e2))
theorem join_signs (l : List Nat) : Txt.join (Str.ofString "") (l.map fun (c : Nat) => (⟨#[c]⟩ : Str)) = ⟨l.toArray⟩ := by
  have h := join_cps (l.map fun (c : Nat) => (⟨#[c]⟩ : Str))
  generalize Txt.join _ _ = z at h
  obtain ⟨z⟩ := z
  have e : (l.map fun (c : Nat) => (⟨#[c]⟩ : Str)).flatMap (fun x => x.cps.toList) = l := by
    rw [List.flatMap_map]
    show l.flatMap (fun c => [c]) = l
    simp
  rw [e] at h
  congr 1
  rw [← h]
theorem kept_push {h h' : Heap} {o : Obj} (hk : ∀ b o', b ∉ [h.objs.size] → (h.push o).get? b = some o' → h'.get? b = some o') : ∀ b o, h.get? b = some o → h'.get? b = some o := fun b o e =>
  hk b o (fun q => absurd (Heap.lt_size e) (by rw [List.mem_singleton.mp q]; exact Nat.lt_irrefl _)) (Heap.get?_push_of_some _ e)
/-- the frame of a comprehension's turn -/
theorem comp_fr {B h h₃ : Heap} {L C : Addr} {m m₃ : Str → Option Value} {o : Obj} (F : Fr B L h m) (hC : @LE.le Nat _ (h.push o).objs.size C) (hn : h₃.Ns C m₃)
    (hk : ∀ b o', b ∉ [h.objs.size] → (h.push o).get? b = some o' → h₃.get? b = some o') : Fr B C h₃ m₃ :=
  ⟨hn, fun b o' e => hk b o' (fun q => absurd (Heap.lt_size (F.keep b o' e)) (by rw [List.mem_singleton.mp q]; exact Nat.lt_irrefl _)) (Heap.get?_push_of_some _ (F.keep b o' e)), Nat.le_trans (Nat.le_trans F.above (Nat.le_of_lt F.ns.lt)) (Nat.le_trans (by rw [Heap.size_push]; exact Nat.le_succ _) hC)⟩
section
open PySem.Builtin in
theorem slice_keep {prog : Program} {w : World} {A : Around} {E : Value → Shared → Prop} {s : Shared} {value slice : PySem.Expr} {b : Array UInt8} {t : Tok} {l u : Value} {lo hi : Option Int} {Q : Value → Shared → Prop}
    (hl : IsPart l lo) (hu : IsPart u hi) (hz : b.size ≤ 16777216)
    (h : ∀ h' t' k, (∀ b o, s.heap.get? b = some o → h'.get? b = some o) → KBw.bInts (KBy.picked b lo hi) = ((KBw.bInts b).drop (lo.elim 0 (clipAt (KBw.bInts b).length))).take (hi.elim (KBw.bInts b).length (clipAt (KBw.bInts b).length) - lo.elim 0 (clipAt (KBw.bInts b).length)) → Q (.bytes (KBy.picked b lo hi) t') { s with heap := h', toks := k })
    (hs : subscripted slice false (.bytes b t) (.ref s.heap.objs.size) = operate [.ref s.heap.objs.size, .bytes b t] (getItem (.bytes b t) (.ref s.heap.objs.size)) := by with_unfolding_all rfl)
    (ht : ∀ r, letTemporaryGo value (.bytes b t) r = pure () := by intro _; with_unfolding_all rfl) :
    wpAny (model prog w) A (subscriptTail value slice (.bytes b t) (.ref s.heap.objs.size)) Q E { s with heap := s.heap.push { cls := .type "slice", data := .fields #[l, u, .none] } } :=
  tail_of_ItemOn ⟨"bytes", _, FB.slot_bytes_getitem.lookup, W.typeIs_bytes _ _ _, getItem_meets (W.typeIs_bytes _ _ _) (by decide) FB.slot_bytes_getitem FB.entry_bytes_getitem (FB.args_bytes_getitem_2 _ _) (KBc.meets_slice2 b t _ hl hu)
    ⟨Heap.IsSliceOf.new _ _ _ _, Nat.le_trans (KBc.size_picked_le b lo hi) (by rw [sizeLine_eq]; exact hz), fun t' k => h _ _ _ (fun _ _ e => Heap.get?_push_of_some _ e) (KBc.ints_picked rfl lo hi)⟩⟩ hs ht
end
section
variable {prog : Program} {w : World} {A : Around} {s : Shared} {E : Value → Shared → Prop} {Q : Value → Shared → Prop}
theorem turned_spec {l : Addr} {ys : Array Value} {xs : List Str} {width : Nat} (hw0 : 0 < width) (hw : width ≤ 8) (hn0 : 0 < xs.length) (hn : xs.length ≤ 64) (hl : s.heap.IsList l ys) (hxs : StrsAre ys.toList xs)
    (hlen : ∀ x ∈ xs, x.length = width) (hasc : ∀ x ∈ xs, ∀ c ∈ x.cps.toList, c < 128) (g : Gd w s.heap) (hd : A.depth + 1 < recursionLimit) (hh : A.handled = none) (hgd : A.guards = some [])
    (ret : ∀ l' h' tk ys', s.heap.StaysIn h' → h'.PlainList l' ys' → StrsAre ys'.toList (xs.map revS) → s.heap.get? l' = none → Q (.ref l') { s with heap := h', toks := tk }) :
    wpR (model prog w) A (call (.ref 68) [.ref l]) Q E s := by
  refine' enterRC (binds := [(Str.ofString "words", .ref l)]) g ?ho ?hcd (Nat.lt_of_succ_lt hd) ?hb ?hki ?hnd ?hco ?hg ?hk ?_
  case ho => k_is
  case hcd => k_is
  case hb => exact rfl
  case hki => exact rfl
  case hnd => decide +kernel
  case hco => exact rfl
  case hg => exact rfl
  case hk => exact rfl
  intro L h₁ tk cells F N Y
  obtain ⟨on, ow, rfl, hon, how⟩ := CellsAre.two Y
  replace N : News _ L h₁ [(L + 1 + 1, on), (L + 1, ow)] := N
  clear Y
  have X := g.X
  obtain ⟨lo, mn, mg, mb, T⟩ := g.T
  refine wpR_execs_any ?_
  iterate 8 walk1
  have hl₁ : h₁.IsList l ys := hl.at fun o e => F.keep l o e
  obtain ⟨x0, hx0⟩ : ∃ x0, xs[0]? = some x0 := ⟨xs[0], by simp [hn0]⟩
  obtain ⟨v0, hv0, t0, rfl⟩ := paired_get hxs 0 x0 hx0
  have hx0l : x0.length = width := hlen _ (List.mem_of_getElem? hx0)
  refine tail_any hl₁.typeIs slot_list_getitem.lookup (wpAny_getItem_list hl₁ (by decide) (by decide) (by simpa using hv0) ?_) (by with_unfolding_all rfl)
  walk1
  refine PyProof.Rows.len_str (by omega) ?_
  rw [hx0l]
  walk1
  rename Obj.data _ = Data.cell (some _) => hds
  refine wpR_execs_cons ?_
  refine wpR_Assign_Name (wpR_Call_Name ?_)
  walk1
  refine' callWithR_K (K := Mine.hd.heap_39 w.params) ?hk ?_
  case hk => k_is
  iterate 5 walk1
  refine wpAny_ListComp_free (fun _ => true) (fun v y => ∃ (c : Nat) (u t : Tok), v = Value.str ⟨#[c]⟩ u ∧ y = Value.int (c : Int) t) (cl := []) rfl (by decide) rfl (by decide) rfl ?_
  iterate 7 walk1
  (with_reducible rename Fr _ _ _ _ => F₂)
  (with_reducible rename News _ _ _ _ => N₂)
  have hl₂ := hl.at fun o e => F₂.keep l o e
  refine join_listW hl₂ (rows_strs hxs) (by decide) (by rw [sum_len hlen]; have : xs.length * width ≤ 64 * 8 := Nat.mul_le_mul hn hw; omega) ?_
  intro tz tkz
  have hz := join_cps xs
  have hzl := flat_len hlen
  have hza : ∀ c ∈ (Txt.join (Str.ofString "") xs).cps.toList, c < 128 := by
    rw [hz]; intro c hc
    obtain ⟨x, hx, hc⟩ := List.mem_flatMap.mp hc
    exact hasc x hx c hc
  rw [← hz, Array.length_toList] at hzl
  generalize Txt.join (Str.ofString "") xs = z at hz hzl hza
  have hlw : xs.length * width ≤ 512 := Nat.mul_le_mul hn hw
  refine wpAny_pyIter_ascii (by rw [← Array.all_toList, List.all_eq_true]; intro c hc; exact decide_eq_true (hza c hc)) ?_
  refine ⟨_, _, _, z.cps.size, _, _, rfl, Walks.strAscii (A := A.deeper _) hh _ z _, by rw [sizeLine_eq]; omega, ⟨_, Heap.get?_push_size _ rfl, rfl, rfl⟩, ?_, ?_, ?_⟩
  · intro b hb
    rw [List.mem_singleton.mp hb, Heap.size_push]; exact Nat.lt_succ_self _
  · constructor
    · rintro C i v s₃ m₃ E' hC hP hn₃ hm₃ hk₃ _
      exact wpAny_pure ⟨rfl, s₃.heap, s₃.toks, rfl, fun _ _ e => e⟩
    · rintro C i v s₃ m₃ E' hC ⟨c, u, hc, rfl⟩ _ hn₃ hm₃ hk₃ _
      have Fc := comp_fr F₂ hC hn₃ hk₃
      iterate 8 walk1
      exact ⟨⟨c, u, _, rfl, rfl⟩, s₃.heap, _, rfl, fun _ _ e => e⟩
  · intro D h₉ tk₉ ds vs hD hlD hplD hlen9 hP9 hF9 hk9
    have hI := ints_of (l := z.cps.toList) (by rw [hlen9, Array.length_toList]) (fun j v e => by
      obtain ⟨c, u, h1, h2⟩ := hP9 j v e
      exact ⟨c, u, by simpa using h1, h2⟩) (by rw [List.filter_eq_self.mpr (fun _ _ => rfl)] at hF9; exact hF9)
    have k9 : ∀ b o, _ = some o → h₉.get? b = some o := fun b o (e : (Shared.heap _).get? b = some o) => hk9 b o (fun q => absurd (Heap.lt_size e) (by rw [List.mem_singleton.mp q]; exact Nat.lt_irrefl _)) (Heap.get?_push_of_some _ e)
    have F₉ := fr_kept F₂ k9
    have N₉ := news_kept N₂ k9
    clear hk9 hF9 hP9 F₂ N₂
    walk1
    refine call_bytes_ints (l := D) (vs := ds.toList) (ns := z.cps.toList.map fun (c : Nat) => (c : Int)) (by simpa using hlD) hI ?_ ?_ hh ?_
    · intro n hn
      obtain ⟨c, hc, rfl⟩ := List.mem_map.mp hn
      have := hza c hc
      omega
    · rw [hI.length, List.length_map, Array.length_toList, sizeLine_eq]; omega
    intro h₁₀ tb tk₁₀ k₁₀
    have F₁₀ := fr_kept F₉ k₁₀
    have N₁₀ := news_kept N₉ k₁₀
    clear F₉ N₉ hlD hplD hI hD k9 k₁₀
    have eb : byteArr (z.cps.toList.map fun (c : Nat) => (c : Int)) = (z.cps.toList.map fun (c : Nat) => c.toUInt8).toArray := by
      unfold byteArr; rw [List.map_map]; rfl
    rw [eb]
    iterate 3 walk1
    refine ⟨X.keeps F₁₀.keep, ?_⟩
    refine swap_spec (n := xs.length) hw0 hw hn ?_ (g.keeps F₁₀.keep) (by show A.depth + 1 < _; exact hd) hh hgd ?_
    · rw [List.length_map, Array.length_toList]; exact hzl
    intro b tb2 h₁₁ tk₁₁ k₁₁ hb
    have F₁₁ := fr_kept F₁₀ k₁₁
    have N₁₁ := news_kept N₁₀ k₁₁
    clear F₁₀ N₁₀ k₁₁ eb
    walk1
    refine wpR_of ?_
    iterate 4 walk1
    iterate 11 walk1
    refine W.ite_neg (by decide) ?_
    iterate 3 walk1
    refine wpAny_ListComp_free (fun _ => true) (fun v y => ∃ (j : Nat) (u t : Tok) (x : Str), v = Value.int (0 + (j : Int) * (width : Int)) u ∧ xs[j]? = some x ∧ y = Value.str (revS x) t) (cl := [(Str.ofString "size", L + 1), (Str.ofString "octets", L + 1 + 1)]) rfl (by decide) rfl (by decide) rfl ?_
    have hbsz := hb.1
    iterate 12 walk1
    refine W.len_bytes (by omega) ?_
    rw [hbsz]
    iterate 4 walk1
    (with_reducible rename IsRange _ _ _ _ _ _ _ _ => hr)
    (with_reducible rename Fr _ _ _ _ => F₁₂)
    (with_reducible rename News _ _ _ _ => N₁₂)
    refine wpAny_pyIter_range hr (range_small hw0 hw hlw) ?_
    have hsz8 := range_stepN (n := xs.length) hw0
    refine ⟨_, _, _, xs.length, _, _, rfl, (Walks.range (A := A.deeper _) hh _ 0 (width : Int) xs.length).bound, by rw [sizeLine_eq]; omega, by show IsRangeIter _ _ _ _ _; rw [hsz8]; simpa using Heap.get?_push_size _ rfl, ?_, ?_, ?_⟩
    · intro b hb
      rw [List.mem_singleton.mp hb, Heap.size_push]; exact Nat.lt_succ_self _
    · have hgo := (N₁₂ _ (.head _)).1
      have hgs := (N₁₂ _ (.tail _ (.head _))).1
      dsimp only at hgo hgs
      constructor
      · rintro C i v s₃ m₃ E' hC hP hn₃ hm₃ hk₃ _
        exact wpAny_pure ⟨rfl, s₃.heap, s₃.toks, rfl, fun _ _ e => e⟩
      · rintro C j v s₃ m₃ E' hC ⟨hji, tj, rfl⟩ _ hn₃ hm₃ hk₃ _
        have Fc := comp_fr F₁₂ hC hn₃ hk₃
        iterate 6 walk1
        refine wpAny_ListComp_free (fun _ => true) (fun v y => ∃ (c : Nat) (u t : Tok), v = Value.int (c : Int) u ∧ y = Value.str ⟨#[c]⟩ t) (cl := []) rfl (by decide) rfl (by decide) rfl ?_
        rename Obj.data _ = Data.cell (some (Value.bytes _ _)) => hdo
        have hco : s₃.heap.IsCell (L + 1 + 1) (some (.bytes b tb2)) := ⟨_, hk₃ _ _ (fun q => absurd (Heap.lt_size hgo) (by rw [List.mem_singleton.mp q]; exact Nat.lt_irrefl _)) (Heap.get?_push_of_some _ hgo), hdo⟩
        have hcs : s₃.heap.IsCell (L + 1) (some (.int (width : Int) _)) := ⟨_, hk₃ _ _ (fun q => absurd (Heap.lt_size hgs) (by rw [List.mem_singleton.mp q]; exact Nat.lt_irrefl _)) (Heap.get?_push_of_some _ hgs), hds⟩
        refine Subscript_ ?_
        refine wpAny_Name (wpAny_loadName_cell rfl rfl rfl hco ?_) (by decide)
        refine wpAny_Slice (evalPart_some_step (wpAny_Name (wpAny_loadName_local rfl rfl hn₃ hm₃ ?_) (by decide)))
        refine evalPart_some_step (wpAny_BinOp (wpAny_Name (wpAny_loadName_local rfl rfl hn₃ hm₃ (wpAny_Name (wpAny_loadName_cell rfl rfl rfl hcs ?_) (by decide))) (by decide)))
        walk1
        refine evalPart_none_step ?_
        refine slice_keep (.int _ _) (.int _ _) ?_ ?_
        · rw [hbsz]; omega
        · intro h₁₃ ts tk₁₃ k₁₃ hpk
          have F₁₃ := fr_kept Fc k₁₃
          obtain ⟨x, hx⟩ : ∃ x, xs[j]? = some x := ⟨_, List.getElem?_eq_getElem hji⟩
          have hjw : (j + 1) * width ≤ xs.length * width := Nat.mul_le_mul_right _ hji
          rw [Nat.succ_mul] at hjw
          have hpx := swap_piece hz hlen hza hb hx
          simp only [Option.elim] at hpk
          have c1 : clipAt b.size (0 + (j : Int) * (width : Int)) = j * width := clip_at (by push_cast; omega) (by omega)
          have c2 : clipAt b.size (0 + (j : Int) * (width : Int) + (width : Int)) = j * width + width := clip_at (by push_cast; omega) (by omega)
          rw [KBw.ints_length, c1, c2, Nat.add_sub_cancel_left] at hpk
          have hpp : (KBy.picked b (some (0 + (j : Int) * (width : Int))) (some (0 + (j : Int) * (width : Int) + (width : Int)))).toList.map (·.toNat) = x.cps.toList.reverse := by
            rw [← hpx]
            have e0 := congrArg (List.map Int.toNat) hpk
            unfold KBw.bInts at e0
            rw [List.map_map, ← List.map_drop, ← List.map_take, List.map_map] at e0
            exact e0
          generalize KBy.picked b (some (0 + (j : Int) * (width : Int))) (some (0 + (j : Int) * (width : Int) + (width : Int))) = pk at hpp
          clear hpk
          have hps : pk.size = width := by
            have e0 := congrArg List.length hpp
            rw [List.length_map, List.length_reverse, Array.length_toList, Array.length_toList] at e0
            rw [e0]; exact hlen x (List.mem_of_getElem? hx)
          refine KBw.pyIter_bytes ?_
          refine ⟨_, _, _, pk.size, _, _, rfl, KBw.walks (A := A.deeper _) hh _ pk _, by rw [sizeLine_eq]; omega, ⟨_, Heap.get?_push_size _ rfl, rfl, rfl⟩, ?_, ?_, ?_⟩
          · intro b hb
            rw [List.mem_singleton.mp hb, Heap.size_push]; exact Nat.lt_succ_self _
          · constructor
            · rintro C2 i v s₄ m₄ E2 hC2 hP hn₄ hm₄ hk₄ _
              exact wpAny_pure ⟨rfl, s₄.heap, s₄.toks, rfl, fun _ _ e => e⟩
            · rintro C2 i v s₄ m₄ E2 hC2 ⟨c, u, hc, rfl⟩ _ hn₄ hm₄ hk₄ _
              have Fc2 := comp_fr F₁₃ hC2 hn₄ hk₄
              have hc256 : c.toNat < 256 := UInt8.toNat_lt c
              iterate 7 walk1
              refine PyProof.Rows.chr_of_range (by omega) (by omega) ?_
              rw [Int.toNat_natCast]
              exact ⟨⟨c.toNat, u, _, rfl, rfl⟩, s₄.heap, _, rfl, fun _ _ e => e⟩
          · intro D2 h₁₄ tk₁₄ ds2 vs2 hD2 hlD2 hplD2 hlen2 hP2 hF2 hk2
            have hS := strs_of (l := x.cps.toList.reverse) (by rw [hlen2, hps, List.length_reverse, Array.length_toList]; exact (hlen x (List.mem_of_getElem? hx)).symm) (fun j v e => by
              obtain ⟨c, u, h1, h2⟩ := hP2 j v e
              refine ⟨c.toNat, u, ?_, h2⟩
              rw [← hpp, List.getElem?_map, Array.getElem?_toList, h1]; rfl) (by rw [List.filter_eq_self.mpr (fun _ _ => rfl)] at hF2; exact hF2)
            walk1
            refine join_listW hlD2 (rows_strs hS) (by decide) ?_ ?_
            · rw [List.map_map, List.length_map, List.length_reverse, Array.length_toList]
              have e1 : (List.map ((fun (x : Str) => x.length) ∘ fun (c : Nat) => (⟨#[c]⟩ : Str)) x.cps.toList.reverse) = x.cps.toList.reverse.map fun _ => 1 := rfl
              have e2 : x.cps.size = width := hlen x (List.mem_of_getElem? hx)
              rw [e1, List.map_const', List.sum_replicate_nat, List.length_reverse, Array.length_toList, e2]
              omega
            intro tj2 tkj2
            rw [join_signs]
            refine ⟨⟨j, tj, tj2, x, rfl, hx, rfl⟩, h₁₄, _, rfl, fun bb o e => hk2 bb o (fun q => absurd (Heap.lt_size (k₁₃ bb o e)) (by rw [List.mem_singleton.mp q]; exact Nat.lt_irrefl _)) (Heap.get?_push_of_some _ (k₁₃ bb o e))⟩
    · intro D3 h₁₅ tk₁₅ ds3 vs3 hD3 hlD3 hplD3 hlen3 hP3 hF3 hk3
      have k15 := kept_push hk3
      have F₁₅ := fr_kept F₁₂ k15
      refine ret D3 h₁₅ _ ds3 F₁₅.keep hplD3 ?_ ?_
      · rw [List.filter_eq_self.mpr (fun _ _ => rfl)] at hF3
        refine paired_ix hF3 (by rw [hlen3, List.length_map]) ?_
        rintro j v y z hv hz' ⟨j', u, t, x, rfl, hx, rfl⟩
        obtain ⟨_, u2, e⟩ := hP3 j _ hv
        injection e with e _
        have ejj : j' = j := by
          have e2 : (j' : Int) * (width : Int) = (j : Int) * (width : Int) := by omega
          have e3 : ((j' * width : Nat) : Int) = ((j * width : Nat) : Int) := by push_cast; exact e2
          exact Nat.eq_of_mul_eq_mul_right hw0 (Int.ofNat.inj e3)
        subst ejj
        rw [List.getElem?_map, hx] at hz'
        simp at hz'
        exact ⟨t, by rw [hz']⟩
      · cases e : s.heap.get? D3 with
        | none => rfl
        | some o =>
          exact absurd (hD3.symm.trans (Heap.get?_push_of_some _ (F₁₂.keep D3 o e))) (by simp)
end
end Mine

end
section
open PySem PySem.W PySem.Spec PySem.Calls PyProof.Rows
set_option Elab.async false
set_option maxRecDepth 100000
set_option maxHeartbeats 4000000
namespace Mine
theorem offW0 : True := by
  w_top off
  trivial
section
variable {prog : Program} {w : World} {A : Around} {s : Shared} {E : Value → Shared → Prop} {Q : Value → Shared → Prop}
/-- a call of a def with cells, some old objects laid aside as its own, in restricted contexts -/
theorem enterRCh {hid : List (Addr × Obj)} {name qual : Str} {params : Arguments} {body : List Stmt} {scope : Scope} {dV kV doc pm cdv ct oc : Value} {an od : Option Addr} {osl : Array (Option Value)} {f : Addr} {vs : List Value} {binds : List (Str × Value)}
    (hhid : ∀ p ∈ hid, s.heap.get? p.1 = some p.2)
    (g : Gd w s.heap) (ho : (hd.heap_39 w.params).lookup f = some ⟨oc, od, .func (fnOf name qual params body scope dV kV doc pm an cdv ct), osl⟩) (hcd : codeIn (hd.heap_39 w.params) cdv qual = true) (hroom : A.depth < recursionLimit)
    (hbind : bindArgs (fnOf name qual params body scope dV kV doc pm an cdv ct) ⟨vs, []⟩ = pure binds)
    (hkind : (binds.all fun y => scope.names.lookup y.1 == some .local || scope.names.lookup y.1 == some .cell) = true)
    (hnd : ((cellsFrom 0 scope.names []).map (·.1)).Nodup) (hco : scope.isCoroutine = false) (hgen : scope.isGenerator = false) (hk : scope.kind = .function)
    (h : ∀ L h₁ tk cells, (∀ p ∈ hid, @LT.lt Nat _ p.1 L) → Fr (hideAll s.heap (hid.map (·.1))) L h₁ (bindL (envOfC qual scope L f cdv).kindOf binds fun _ => none) → News (hideAll s.heap (hid.map (·.1))) L h₁ (cells ++ hid) →
      CellsAre (bindC (envOfC qual scope L f cdv).kindOf binds fun _ => none) (cellsFrom (L + 1) scope.names []) cells →
      wpR (model prog w) (A.deeper (envOfC qual scope L f cdv)) (execs body (envOfC qual scope L f cdv)) (fun fl s' => Q (match fl with | .ret v => v | _ => .none) s') (fun _ _ => False)
        { s with heap := h₁, toks := tk }) : wpR (model prog w) A (call (.ref f) vs) Q E s := by
  obtain ⟨lo, mn, mg, mb, T⟩ := g.T
  refine wpR_call (codeR_call_function (fd := fnOf name qual params body scope dV kV doc pm an cdv ct) (body := body) hroom (g.X _ _ ho) rfl hco hgen rfl (codeRec_of g.X hcd) ((BindsTo.of_eq hbind) _ _ _ _ ?_))
  refine wpAny_newFunctionEnv_cells hk (kindsX hkind _) fun env' he s' x => ?_
  subst he
  refine ⟨(T.nolimit).keeps x.toInCall.keep, codeR_func ?_⟩
  obtain ⟨h₁, tk, rfl, _⟩ := x.done
  have hk₁ := x.toInCall.keep
  obtain ⟨cells, NC, Y⟩ := Cl.news (h₀ := s.heap) (Nat.le_refl _) fun n c hm => ⟨x.cell n c (lookup_of_mem_nodup (cellsFrom_names scope.names 0 (s.heap.objs.size + 1) [] [] rfl ▸ hnd) hm), x.above n c hm⟩
  refine wpR_mono (h s.heap.objs.size h₁ tk cells (fun p hp => Heap.lt_size (hhid p hp)) ⟨x.toInCall.ns, fun b o e => hk₁ b o (of_hideAll _ e), Nat.le_of_eq (hideAll_size _ _)⟩ (fun p hp => ?_) Y) (fun _ _ q => q) fun _ _ q => q.elim
  rcases List.mem_append.mp hp with hp | hp
  · refine ⟨(NC p hp).1, (NC p hp).2.1, ?_⟩
    cases q : (hideAll s.heap (hid.map (·.1))).get? p.1 with
    | none => rfl
    | some o => have := of_hideAll _ q; rw [(NC p hp).2.2] at this; cases this
  · exact ⟨hk₁ _ _ (hhid p hp), Nat.ne_of_lt (Heap.lt_size (hhid p hp)), hideAll_none _ (List.mem_map_of_mem hp)⟩
theorem slice_raw3 {value slice : Expr} {l : Addr} {items : Array Value} {vl vu vk : Value} {lo hi st : Option Int} {ops : List Value}
    (hl : s.heap.IsList l items) (pl : IsPart vl lo) (pu : IsPart vu hi) (pk : IsPart vk st) (h0 : st ≠ some 0) (hsz : items.size ≤ 1000)
    (h : ∀ D h', (∀ b o, s.heap.get? b = some o → h'.get? b = some o) → h'.IsList D (slicePick items lo hi st) → Q (.ref D) { s with heap := h' })
    (hs : subscripted slice false (.ref l) (.ref s.heap.objs.size) = operate ops (getItem (.ref l) (.ref s.heap.objs.size)) := by with_unfolding_all rfl)
    (ht : ∀ r, letTemporaryGo value (.ref l) r = pure () := by intro _; with_unfolding_all rfl) :
    wpAny (model prog w) A (subscriptTail value slice (.ref l) (.ref s.heap.objs.size)) Q E { s with heap := s.heap.push { cls := .type "slice", data := .fields #[vl, vu, vk] } } := by
  refine subscriptTail_ops (Heap.IsList.typeIs (s := { s with heap := s.heap.push { cls := .type "slice", data := .fields #[vl, vu, vk] } }) (hl.push _)) list_getitem_lookup
    (wpAny_getItem_list_slice (hl.push _) (Heap.IsSliceOf.new ..) pl pu pk h0 ?_ (by rw [sizeLine_eq]; omega)) hs ht
  exact h _ _ (fun b o e => Heap.get?_push_of_some _ (Heap.get?_push_of_some _ e)) ⟨_, Heap.get?_push_size _ rfl, rfl, _, rfl⟩
theorem menu8 {j : Nat} (hj : j < 8) (a0 a1 a2 a3 a4 a5 a6 a7 : Int) (t0 t1 t2 t3 t4 t5 t6 t7 : Tok) :
    ∃ y t, [Value.int a0 t0, .int a1 t1, .int a2 t2, .int a3 t3, .int a4 t4, .int a5 t5, .int a6 t6, .int a7 t7].toArray[j]? = some (.int y t) := by
  match j, hj with
  | 0, _ => exact ⟨_, _, rfl⟩
  | 1, _ => exact ⟨_, _, rfl⟩
  | 2, _ => exact ⟨_, _, rfl⟩
  | 3, _ => exact ⟨_, _, rfl⟩
  | 4, _ => exact ⟨_, _, rfl⟩
  | 5, _ => exact ⟨_, _, rfl⟩
  | 6, _ => exact ⟨_, _, rfl⟩
  | 7, _ => exact ⟨_, _, rfl⟩
/-- sum of a list of ints, whatever their size -/
theorem sum_any {l : Addr} {vs : List Value} {ns : List Int} (hh : A.handled = none) (hl : s.heap.IsList l vs.toArray) (hi : IntsAre vs ns)
    (h : ∀ h' tk t' (n : Int), (∀ b o, s.heap.get? b = some o → h'.get? b = some o) → n = ns.sum → Q (.int n t') { s with heap := h', toks := tk }) : wpAny (model prog w) A (call (.builtin "sum") [.ref l]) Q E s := by
  obtain ⟨xs, e⟩ := hi.allInts.items
  have hl' : s.heap.IsList l (intItems xs) := by rw [← e]; exact hl
  refine sum_intListG hh hl' fun h' tk t' k => h h' tk t' _ k ?_
  have e2 := hi.numsOf
  rw [show vs = (intItems xs).toList by rw [← e], nums_intItems] at e2
  rw [← e2, preSum_eq, List.take_of_length_le (by simp)]
end
theorem ints_ex {α : Type} {vs : List α} {ds : List Value} (h : Paired (fun (_ : α) y => ∃ (n : Int) (t : Tok), y = Value.int n t) vs ds) : ∃ ms, IntsAre ds ms ∧ ms.length = vs.length := by
  induction h with
  | nil => exact ⟨[], .nil, rfl⟩
  | cons h _ ih =>
    obtain ⟨n, t, rfl⟩ := h
    obtain ⟨ms, i, e⟩ := ih
    exact ⟨n :: ms, .cons n t i, by simp [e]⟩
theorem signs_ex {α : Type} {P : Nat → Prop} {vs : List α} {ds : List Value} (h : Paired (fun (_ : α) y => ∃ (c : Nat) (t : Tok), P c ∧ y = Value.str ⟨#[c]⟩ t) vs ds) : ∃ ms : List Nat, StrsAre ds (ms.map fun (c : Nat) => (⟨#[c]⟩ : Str)) ∧ ms.length = vs.length ∧ ∀ c ∈ ms, P c := by
  induction h with
  | nil => exact ⟨[], .nil, rfl, fun _ h => nomatch h⟩
  | cons h _ ih =>
    obtain ⟨c, t, hc, rfl⟩ := h
    obtain ⟨ms, i, e, q⟩ := ih
    exact ⟨c :: ms, .cons ⟨t, rfl⟩ i, by simp [e], fun x hx => (List.mem_cons.mp hx).elim (fun e => e ▸ hc) (q x)⟩
/-- behind a comprehension that is kept under a local name -/
theorem behind_assign {B h h' : Heap} {L D : Addr} {m m' : Str → Option Value} {news : List (Addr × Obj)} {o oD : Obj} {wr : List Addr} (F : Fr B L h m) (N : News B L h news) (hwr : wr = [h.objs.size]) (hD : (h.push o).get? D = none) (hn : h'.Ns L m') (hoD : h'.get? D = some oD)
    (hk : ∀ b o', b ≠ L → b ∉ wr → (h.push o).get? b = some o' → h'.get? b = some o') : Fr B L h' m' ∧ News B L h' ((D, oD) :: news) ∧ ∀ p ∈ news, p.1 ≠ D := by
  subst hwr
  have k : ∀ b o', b ≠ L → h.get? b = some o' → h'.get? b = some o' := fun b o' hb e => hk b o' hb (fun q => absurd (Heap.lt_size e) (by rw [List.mem_singleton.mp q]; exact Nat.lt_irrefl _)) (Heap.get?_push_of_some _ e)
  have nD : h.get? D = none := by
    cases e : h.get? D with
    | none => rfl
    | some o' => exact absurd (hD.symm.trans (Heap.get?_push_of_some _ e)) (by simp)
  refine ⟨⟨hn, fun b o' e => k b o' (Nat.ne_of_lt (Nat.lt_of_lt_of_le (Heap.lt_size e) F.above)) (F.keep b o' e), F.above⟩, fun p hp => ?_, fun p hp => ?_⟩
  · rcases List.mem_cons.mp hp with rfl | hp
    · refine ⟨hoD, fun e => ?_, ?_⟩
      · obtain ⟨oL, _, _, hL, _⟩ := F.ns
        rw [show D = L from e, hL] at nD; cases nD
      · cases e : B.get? D with
        | none => rfl
        | some o' => rw [F.keep _ _ e] at nD; cases nD
    · have n := N p hp
      exact ⟨k _ _ n.2.1 n.1, n.2⟩
  · intro e
    have n := (N p hp).1
    rw [show p.1 = D from e, nD] at n; cases n
/-- behind a call that keeps all and gives a new object -/
theorem behind_call {B h h' : Heap} {L D : Addr} {m : Str → Option Value} {news : List (Addr × Obj)} {oD : Obj} (F : Fr B L h m) (N : News B L h news) (k : h.StaysIn h') (hD : h.get? D = none) (hoD : h'.get? D = some oD) :
    Fr B L h' m ∧ News B L h' ((D, oD) :: news) ∧ ∀ p ∈ news, p.1 ≠ D := by
  refine ⟨fr_kept F k, fun p hp => ?_, fun p hp e => ?_⟩
  · rcases List.mem_cons.mp hp with rfl | hp
    · refine ⟨hoD, fun e => ?_, ?_⟩
      · obtain ⟨oL, _, _, hL, _⟩ := F.ns
        rw [show D = L from e, hL] at hD; cases hD
      · cases e : B.get? D with
        | none => rfl
        | some o' => rw [F.keep _ _ e] at hD; cases hD
    · exact news_kept N k p hp
  · have n := (N p hp).1
    rw [show p.1 = D from e, hD] at n; cases n
theorem cut_to {cs : List Nat} {n : Nat} (h : n ≤ cs.length) : Txt.slice ⟨cs.toArray⟩ none (some (n : Int)) = ⟨(cs.take n).toArray⟩ := by
  have := slice_closes_toL (x := ⟨cs.toArray⟩) (j := (n : Int)) (by omega) (by show (n : Int) ≤ ((cs.toArray.size : Nat) : Int); simp; omega)
  rw [eq_of_beq this]
  simp
theorem cut_from {cs : List Nat} {n : Nat} (h : n ≤ cs.length) : Txt.slice ⟨cs.toArray⟩ (some (n : Int)) none = ⟨(cs.drop n).toArray⟩ := by
  have e : (Str.length ⟨cs.toArray⟩) = cs.length := by show cs.toArray.size = _; simp
  have := slice_closes_fromL (x := ⟨cs.toArray⟩) (i := (n : Int)) (b := (cs.length : Int)) (by omega) (by rw [e]; omega) (by rw [e])
  rw [eq_of_beq this]
  have e2 : ((cs.length : Int) - (n : Int)).toNat = cs.length - n := by omega
  simp only [Int.toNat_natCast, e2, List.take_of_length_le, List.length_drop, Nat.le_refl]
theorem mem_front {α : Type} {a p : α} {c n : List α} (h : p ∈ a :: (c ++ n)) : p ∈ a :: (n ++ c) := by
  simp only [List.mem_cons, List.mem_append] at h ⊢
  rcases h with h | h | h
  · exact .inl h
  · exact .inr (.inr h)
  · exact .inr (.inl h)
/-- a name's cell is stored -/
theorem store_cell {M : Model} {A : Around} {E : Value → Shared → Prop} {s : Shared} {Q : Unit → Shared → Prop} {env : Env} {x : Str} {c : Addr} {oc : Obj} {v₀ : Option Value} {v : Value} {B : Heap} {L : Addr} {m : Str → Option Value} {rest : List (Addr × Obj)}
    (F : Fr B L s.heap m) (N : News B L s.heap ((c, oc) :: rest)) (hoc : oc.data = .cell v₀) (hr : ∀ p ∈ rest, p.1 ≠ c)
    (h : ∀ h' oc', Fr B L h' m → News B L h' ((c, oc') :: rest) → oc'.data = .cell (some v) → Q () { s with heap := h' })
    (hk : env.scope.kind = .function) (hx : env.kindOf x = some .cell) (hc : env.cells.lookup x = some c) : wpAny M A (storeName env x v) Q E s := by
  refine wpAny_storeName_cell hk hx hc ⟨oc, (N _ (.head _)).1, hoc⟩ fun h' hv hs => ?_
  obtain ⟨oc', ho', hd'⟩ := hv
  obtain ⟨F', N'⟩ := upd_one F N hr ho' hs
  exact h h' oc' F' N' hd'
theorem fillW0 : PySem.Challenge.rw_rl0017_01 = PySem.Challenge.rw_rl0017_01 ∧ hd.heap_39 = hd.heap_39 := by
  k_fill
  exact ⟨rfl, rfl⟩
theorem rec_method {prog : Program} {w : World} {A : Around} {s : Shared} {E : Value → Shared → Prop} {r : Addr} {rules : List (Str × Bool)} {pl : Sem Bool} {Q : Value × List Value → Shared → Prop} (x : RecG w (inH s.heap) r rules) (g : Gd w s.heap) (h : Q (.ref 56, [.ref r]) s) :
    wpAny (model prog w) A (getMethod (.ref r) (Str.ofString "allowance") pl) Q E s := by
  obtain ⟨ox, dx, od, l, ol, items, n, k1, k2, k3, k4, k5, h3, h4, k8, k9, k10, k11⟩ := x
  have X := g.X
  refine' method_fn X (inst_mk k1 k2 k3 k4 k5) ?k1 ?k2 ?k3 ?k4 ?k5 h
  case k1 => k_is
  case k2 => k_is
  case k3 => k_is
  case k4 => k_is
  case k5 => show (lookIn _ od).map _ = _; rw [h4]; rfl
theorem ruleOf_fst {word : Str} {turn : Int} {p : Nat} {nm : Str} {r : Str × Bool} (h : r ∈ ruleOf word turn p nm) : r.1 = nm ++ Str.ofString "b" := by
  unfold ruleOf at h
  split at h
  · split at h <;> simp only [List.mem_cons, List.not_mem_nil, or_false] at h <;> rcases h with rfl | rfl <;> rfl
  · rw [List.mem_singleton.mp h]
theorem rot_len {word : Str} {turn : Int} {r : Str × Bool} (h : r ∈ rotW word turn) : r.1.length ≤ word.length := by
  have h2 : r ∈ rulesW word turn := by
    unfold rotW at h
    rcases List.mem_append.mp h with h | h
    · exact List.mem_of_mem_drop h
    · exact List.mem_of_mem_take h
  unfold rulesW at h2
  obtain ⟨p, hp, h3⟩ := List.mem_flatMap.mp h2
  unfold rulesAt at h3
  split at h3
  · obtain ⟨nm, hn, h4⟩ := List.mem_flatMap.mp h3
    rw [ruleOf_fst h4, Str.length_append, namesL_len p nm hn]
    have : (Str.ofString "b").length = 1 := by decide
    have := List.mem_range.mp hp
    omega
  · cases h3
/-- these values are these truth values -/
abbrev BoolsAre (vs : List Value) (bs : List Bool) : Prop := Paired (fun (v : Value) (b : Bool) => v = .bool b) vs bs
theorem bools_of {vs ds : List Value} {ny : Array Value} {xs : List Str} {f : Str → Bool} (hF : Paired (fun v y => ∃ (a : Str) (t : Tok), v = Value.str a t ∧ y = Value.bool (f a)) vs ds) (hl : vs.length = ny.size)
    (hP : ∀ (j : Nat) v, vs[j]? = some v → ny[j]? = some v) (hny : StrsAre ny.toList xs) : BoolsAre ds (xs.map f) := by
  refine paired_ix hF (by rw [hl, List.length_map, ← hny.length, Array.length_toList]) ?_
  rintro j v y z hv hz ⟨a, t, rfl, rfl⟩
  rw [List.getElem?_map] at hz
  cases hx : xs[j]? with
  | none => rw [hx] at hz; cases hz
  | some x =>
    rw [hx] at hz
    obtain ⟨v', hv', t', rfl⟩ := paired_get hny j x hx
    have h1 := hP j _ hv
    rw [← Array.getElem?_toList, hv'] at h1
    injection h1 with h1
    injection h1 with h1 _
    subst h1
    simp at hz
    rw [hz]
theorem push_none {h : Heap} {o : Obj} {D : Addr} (e : (h.push o).get? D = none) : h.get? D = none := by
  cases q : h.get? D with
  | none => rfl
  | some o' => exact absurd (e.symm.trans (Heap.get?_push_of_some _ q)) (by simp)
theorem comp_split {e : Expr} {scope : Scope} {env : Env} {pos : Pos} {acc : Sem Value} {b : Bool} {first : Sem Value} {use : Option (Value → Sem Unit)} :
    comprehension e scope env pos acc b first use = first >>= fun x => comprehension e scope env pos acc b (pure x) use := by
  unfold comprehension
  rfl
/-- a comprehension whose source is a call that wants the restricted contexts -/
theorem wpR_ListComp_free {prog : Program} {w : World} {A : Around} {E : Value → Shared → Prop} {env : Env} {s : Shared} {elt iter : Expr} {x : Str} {px : Pos} {ifs : List Expr} {scope : Scope} {cl : List (Str × Addr)} {pos : Pos} {Q : Value → Shared → Prop} (p : Value → Bool) (F : Value → Value → Prop)
    (hclos : closureFor scope env = pure cl) (hcell : ∀ y ∈ scope.names, y.2 ≠ .cell) (hkind : scope.kind = .function)
    (hnames : ∀ y ∈ scope.names, y.2 = .local → scope.names.lookup y.1 = some .local) (hx : scope.names.lookup x = some .local)
    (h : wpR (model prog w) A (eval iter env) (fun xv s₁ => wpAny (model prog w) A (pyIter xv) (fun it s₂ => ∃ I fp wr n P St, it = .ref I ∧ Walks prog w A I fp wr n P St ∧ n ≤ sizeLine ∧ St 0 s₂.heap ∧ (∀ b ∈ fp, b < s₂.heap.objs.size) ∧
      QuietOnC prog w A env scope cl x ifs elt wr P p F s₂ ∧
      (∀ D h' tk ys (vs : List Value), s₂.heap.get? D = none → h'.IsList D ys → h'.PlainList D ys → vs.length = n → (∀ j v, vs[j]? = some v → P j v) → Paired F (vs.filter p) ys.toList →
        (∀ b o, b ∉ wr → s₂.heap.get? b = some o → h'.get? b = some o) → Q (.ref D) { s₂ with heap := h', toks := tk })) E s₁) E s)
    (hs : ∀ x, foldedSetIterable iter env x = pure x := by intro _; rfl) :
    wpR (model prog w) A (eval (.ListComp elt [⟨.Name x px, iter, ifs, 0⟩] scope pos) env) Q E s := by
  rw [eval_ListComp, comp_split]
  refine wpR_bind (wpR_mono h (fun xv s₁ h₁ => wpR_of ?_) fun _ _ e => e)
  refine wpAny_comprehension_free (use := none) rfl hs hclos hkind hnames (wpAny_pure (wpAny_mono h₁ (fun it s₂ h₂ => ?_) fun _ _ e => e))
  obtain ⟨I, fp, wr, n, P, St, rfl, W, hsz, hst, hfp, hq, hQ⟩ := h₂
  refine comp_block_walkC (RR := fun acc C => compPost (model prog w) A E none Q acc C) W hsz p F hcell hkind hx hst hfp hq ?_
  intro D C h' tk m' ys vs hD hC hDC hn hl hpl hlen hP hF hk
  exact ⟨m', hn, fun h'' hs'' => hQ D h'' tk ys vs hD (hl.extBut hs''.extBut hDC) (hpl.extBut hs''.extBut hDC) hlen hP hF fun b o hbf e => hs''.extBut b o (by rintro rfl; rw [hC] at e; cases e) (hk b o hbf e)⟩
theorem names_chars : ∀ k, ∀ a ∈ namesL k, ∀ c ∈ a.cps.toList, c = 97 ∨ c = 98
  | 0, a, h, c, hc => by
    rw [namesL, List.mem_singleton] at h
    subst h
    have e : (Str.ofString "").cps.toList = [] := by decide
    rw [e] at hc; cases hc
  | k + 1, a, h, c, hc => by
    rw [namesL, List.mem_flatMap] at h
    obtain ⟨b, hb, h2⟩ := h
    obtain ⟨d, hd, rfl⟩ := List.mem_map.mp h2
    have e : (b ++ (⟨#[d]⟩ : Str)).cps.toList = b.cps.toList ++ [d] := by
      show (b.cps ++ #[d]).toList = _
      simp
    rw [e] at hc
    rcases List.mem_append.mp hc with hc | hc
    · exact names_chars k b hb c hc
    · rw [List.mem_singleton.mp hc]
      have e2 : (Str.ofString "ab").cps.toList = [97, 98] := by decide
      rw [e2] at hd
      simpa using hd
theorem count_at {vs : List Value} {n : Nat} {p : Value → Bool} {pz : Nat → Bool} {f : Nat → Int} (hlen : vs.length = n) (hP : ∀ (j : Nat) v, vs[j]? = some v → ∃ t, v = Value.int (f j) t) (hp : ∀ (j : Nat) t, p (.int (f j) t) = pz j) :
    (vs.filter p).length = ((List.range n).filter pz).length := by
  have e : vs.map p = (List.range n).map pz := by
    apply List.ext_getElem?
    intro j
    rw [List.getElem?_map, List.getElem?_map]
    by_cases hj : j < n
    · have h1 : vs[j]? = some vs[j] := by simp
      obtain ⟨t, ht⟩ := hP j _ h1
      rw [h1, List.getElem?_range hj, Option.map_some, Option.map_some, ht, hp]
    · rw [List.getElem?_eq_none (by omega), List.getElem?_eq_none (by simp; omega)]; rfl
  have e2 : ∀ {α : Type} (l : List α) (f : α → Bool), (l.filter f).length = ((l.map f).filter id).length := by
    intro α l f
    rw [List.filter_map, List.length_map]; rfl
  rw [e2, e, ← e2]
theorem bool_at {sd : Array Value} {S : List Bool} (h : BoolsAre sd.toList S) {j : Nat} (hj : j < S.length) : ∃ b, sd[j]? = some (.bool b) ∧ S[j]? = some b := by
  obtain ⟨v, h1, h2⟩ := paired_get h j _ (List.getElem?_eq_getElem hj)
  exact ⟨_, by rw [← Array.getElem?_toList, h1, h2], List.getElem?_eq_getElem hj⟩
theorem cells_six {cm : Str → Option Value} {n₁ n₂ n₃ n₄ n₅ n₆ : Str} {c₁ c₂ c₃ c₄ c₅ c₆ : Addr} {cells : List (Addr × Obj)} (x : CellsAre cm [(n₁, c₁), (n₂, c₂), (n₃, c₃), (n₄, c₄), (n₅, c₅), (n₆, c₆)] cells) :
    ∃ o₁ o₂ o₃ o₄ o₅ o₆, cells = [(c₁, o₁), (c₂, o₂), (c₃, o₃), (c₄, o₄), (c₅, o₅), (c₆, o₆)] ∧ o₁.data = .cell (cm n₁) ∧ o₂.data = .cell (cm n₂) ∧ o₃.data = .cell (cm n₃) ∧ o₄.data = .cell (cm n₄) ∧ o₅.data = .cell (cm n₅) ∧ o₆.data = .cell (cm n₆) := by
  cases x with
  | cons h r =>
    cases r with
    | cons h' r => obtain ⟨o₃, o₄, o₅, o₆, rfl, h₃, h₄, h₅, h₆⟩ := r.four; exact ⟨_, _, o₃, o₄, o₅, o₆, rfl, h, h', h₃, h₄, h₅, h₆⟩
/-- the text of the law, read off the written part -/
def bodyOf : Option Obj → Option (Str × Scope × Value × List Stmt)
  | some ⟨_, _, .func fd, _⟩ => (match fd.body with
      | .stmts b => some (fd.qualname, fd.scope, fd.code, b)
      | _ => none)
  | _ => none
theorem body_mk {o : Option Obj} {o' : Obj} {r : Option (Str × Scope × Value × List Stmt)} (e : o = some o') (h : bodyOf (some o') = r) : bodyOf o = r := e ▸ h
theorem body_is {o : Option Obj} {o' : Obj} {r : Option (Str × Scope × Value × List Stmt)} (e : o = some o') (h : bodyOf o = r) : bodyOf (some o') = r := e ▸ h
end Mine

end
section
open PySem PySem.W PySem.Spec PySem.Calls PyProof.Rows
set_option Elab.async false
set_option maxRecDepth 100000
set_option maxHeartbeats 4000000
namespace Mine
theorem offW3 : True := by
  w_top off
  trivial
theorem fillW3 : PySem.Challenge.rw_rl0017_01 = PySem.Challenge.rw_rl0017_01 ∧ hd.heap_39 = hd.heap_39 := by
  k_fill
  exact ⟨rfl, rfl⟩
section
variable {M : Model} {A : Around} {E : Value → Shared → Prop} {s : Shared} {env : Env}
theorem wpR_If {test : Expr} {body orelse : List Stmt} {pos : Pos} {Q : Flow → Shared → Prop}
    (h : wpR M A (isTrue test env (eval test env)) (fun b s₂ => if b then wpR M A (execs body env) Q E s₂ else wpR M A (execs orelse env) Q E s₂) E s) :
    wpR M A (exec (.If test body orelse pos) env) Q E s := by
  rw [exec_If]
  refine wpR_any_bind (wpAny_standAt (wpR_bind (wpR_mono h (fun b s₂ h₂ => ?_) fun _ _ x => x)))
  cases b <;> exact h₂
theorem wpR_or2 {c1 c2 : Expr} {pos : Pos} {whole : Sem Value} {Q : Bool → Shared → Prop}
    (h : wpAny M A (isTrue c1 env (eval c1 env)) (fun b s₁ => if b then Q true s₁ else wpR M A (isTrue c2 env (eval c2 env)) Q E s₁) E s) :
    wpR M A (isTrue (.BoolOp .Or [c1, c2] pos) env whole) Q E s := by
  show wpR M A (isTrue c1 env (eval c1 env) >>= _) Q E s
  refine wpR_any_bind (wpAny_mono h (fun b s₁ h₁ => ?_) fun _ _ x => x)
  cases b
  · show wpR M A (isTrue c2 env (eval c2 env) >>= _) Q E s₁
    refine wpR_bind (wpR_mono (show wpR M A (isTrue c2 env (eval c2 env)) Q E s₁ from h₁) (fun b s₂ h₂ => ?_) fun _ _ x => x)
    cases b <;> exact wpR_pure h₂
  · exact wpR_pure h₁
theorem wpR_Compare1 {l r : Expr} {op : CmpOp} {pos : Pos} {whole : Sem Value} {Q : Bool → Shared → Prop}
    (h : wpR M A (eval l env) (fun a s₁ => wpAny M A (eval r env) (fun b s₂ => wpAny M A (compareOp op a b) (fun c s₃ => wpAny M A (truthy c) Q E s₃) E s₂) E s₁) E s)
    (hm : behindInMarks op r = false := by with_unfolding_all rfl) : wpR M A (isTrue (.Compare l [op] [r] pos) env whole) Q E s := fun Γ p hΓ g => by
  simp only [isTrue_Compare1, markedBehindIn_of_false hm, Sem.wp_bind', Sem.wp_holding, Sem.wp_cmd_standAt, Sem.wp_operate]
  exact Sem.wp_mono M Γ _ (fun a p₁ s₁ h₁ => Sem.wp_mono M Γ _ (fun b _ s₂ h₂ => Sem.wp_mono M Γ _ (fun c p₃ s₃ h₃ => h₃ Γ p₃ hΓ)
    (fun _ _ _ h' => h') _ _ (h₂ Γ _ hΓ)) (fun _ _ _ h' => h') _ _ (h₁ Γ p₁ hΓ)) (fun _ _ _ h' => h') _ _ (h Γ p hΓ g)
theorem wpR_Subscript {value slice : Expr} {pos : Pos} {Q : Value → Shared → Prop}
    (h : wpR M A (eval value env) (fun o s₁ => wpAny M A (eval slice env) (fun i s₂ => wpAny M A (subscriptTail value slice o i) Q E s₂) E s₁) E s) :
    wpR M A (eval (.Subscript value slice pos) env) Q E s := by
  rw [eval_Subscript]
  exact wpR_bind (wpR_mono h (fun o s₁ h₁ => wpR_of (wpAny_bind (wpAny_holding (wpAny_mono h₁ (fun i s₂ h₂ => wpAny_bind (wpAny_standAt h₂)) fun _ _ x => x)))) fun _ _ x => x)
end
/-- how often the answers change -/
def changesN (S : List Bool) : Nat := ((List.range (S.length - 1)).filter fun j => S[j + 1]? != S[j]?).length
/-- how often two rows of answers agree -/
def alikeN (S T : List Bool) : Nat := ((List.range S.length).filter fun j => S[j]? == T[j]?).length
section
variable {prog : Program} {w : World} {A : Around} {s : Shared} {E : Value → Shared → Prop}
theorem law_tail2 {B h : Heap} {L nl D D5 D6 : Addr} {tk nn n5 n6 cN : Nat} {tf tt tc : Tok} {turn : Int} {ny sd bk ps : Array Value} {cs : List Nat} {S T : List Bool} {o1 o2 o5 : Obj} {qual : Str} {scope : Scope} {cdv : Value} {body : List Stmt} {Q : Flow → Shared → Prop}
    (hbd : bodyOf ((hd.heap_39 w.params).lookup 97) = some (qual, scope, cdv, body)) (gb : Gd w B) (hd : A.depth + 5 < recursionLimit) (hh : A.handled = none) (hgd : A.guards = some []) (hun : A.units + 100 < cLine)
    (F : Fr B L h fun z => if z = Str.ofString "names" then some (.ref nl) else if z = Str.ofString "turn" then some (.int turn tt) else if z = Str.ofString "figures" then some (.str ⟨cs.toArray⟩ tf) else if z = Str.ofString "numbers" then some (.ref D) else none)
    (N : News B L h [(70, tabObj ps), (nl, W.listOf ny nn), (D5, W.listOf sd n5), (D6, W.listOf bk n6), (L + 1 + 1 + 1 + 1 + 1 + 1, o1), (L + 1 + 1 + 1 + 1 + 1, o2), (L + 1 + 1, o5)])
    (d1 : o1.data = .cell (some (.ref D6))) (d2 : o2.data = .cell (some (.ref D5))) (d5 : o5.data = .cell (some (.int (cN : Int) tc)))
    (hny : StrsAre ny.toList (namesL cN)) (hS : BoolsAre sd.toList S) (hT : BoolsAre bk.toList T) (hSl : S.length = 2 ^ cN) (hTl : T.length = 2 ^ cN) (hc34 : cN = 3 ∨ cN = 4) (hcs : cs.length = 2 * cN) (hc01 : ∀ c ∈ cs, c = 48 ∨ c = 49)
    (hA : Builtin.bitXor (changesN S : Int) (Int.fdiv (changesN S : Int) 2) = numL (cs.take cN).reverse)
    (hB : alikeN S T = if cs.drop cN = (cs.take cN).reverse then 2 ^ cN else 2 ^ cN / 2)
    (ret : ∀ h' tk' m', Fr B L h' m' → h'.get? 70 = some (tabObj ps) → Q (.ret (.bool true)) { s with heap := h', toks := tk' }) :
    wpR (model prog w) (A.deeper (envOfC qual scope L 97 cdv)) (execs (body.drop 7) (envOfC qual scope L 97 cdv)) Q (fun _ _ => False) { s with heap := h, toks := tk } := by
  replace hbd := body_is (by k_is) hbd
  simp only [bodyOf] at hbd
  injection hbd with hbd
  injection hbd with e1 hbd
  injection hbd with e2 hbd
  injection hbd with e3 e4
  subst e1 e2 e3 e4
  dsimp only [List.drop]
  have X := gb.X
  obtain ⟨lo, mn, mg, mb, Tp⟩ := gb.T
  refine wpR_execs_cons ?_
  have hbl : bk.size = 2 ^ cN := by have := hT.length; rw [Array.length_toList] at this; rw [this, hTl]
  have hsl : sd.size = 2 ^ cN := by have := hS.length; rw [Array.length_toList] at this; rw [this, hSl]
  have hnl : ny.size = 2 ^ cN := by have := hny.length; rw [Array.length_toList, namesL_length] at this; exact this
  have h2c : 2 ^ cN ≤ 16 := by rcases hc34 with rfl | rfl <;> decide
  have h2p : 0 < 2 ^ cN := Nat.pow_pos (by decide)
  refine wpR_If (wpR_or2 ?_)
  iterate 7 walk1
  refine len_list (items := bk) ⟨_, (N _ (.tail _ (.tail _ (.tail _ (.head _))))).1, rfl, _, rfl⟩ (by omega) ?_
  rw [hbl]
  iterate 6 walk1
  refine len_list (items := ny) ⟨_, (N _ (.tail _ (.head _))).1, rfl, _, rfl⟩ (by omega) ?_
  rw [hnl]
  iterate 2 walk1
  refine W.ite_neg (by simp) ?_
  (with_reducible rename Fr _ _ _ _ => F₁)
  (with_reducible rename News _ _ _ _ => N₁)
  refine wpR_Compare1 (wpR_Call_Name ?_)
  walk1
  refine' callWithR_K (K := Mine.hd.heap_39 w.params) ?hk ?_
  case hk => k_is
  iterate 5 walk1
  refine ⟨X.keeps F₁.keep, ?_⟩
  refine swap_spec (l := []) (n := 0) (by omega) (by omega) (by omega) (by simp) (gb.keeps F₁.keep) (by show A.depth + 1 < _; omega) hh hgd ?_
  intro b0 tb0 h₂ tk₂ k₂ hb0
  have F₂ := fr_kept F₁ k₂
  have N₂ := news_kept N₁ k₂
  clear F₁ N₁
  have eb0 : b0 = #[] := Array.eq_empty_of_size_eq_zero (by rw [hb0.1]; omega)
  subst eb0
  walk1
  refine W.ne_bytes ?_
  walk1
  refine W.ite_neg (by decide) ?_
  refine wpR_of (wpAny_execs_nil ?_)
  refine wpR_execs_any ?_
  refine wpAny_If (wpAny_isTrue_Compare1 ?_)
  refine wpAny_ListComp_free (fun v => match v with | .bool _ => false | _ => true) (fun v y => y = v) (cl := []) rfl (by decide) rfl (by decide) rfl ?_
  iterate 3 walk1
  refine add_arrays F₂ N₂ ⟨_, (N₂ _ (.tail _ (.tail _ (.head _)))).1, rfl, _, rfl⟩ ⟨_, (N₂ _ (.tail _ (.tail _ (.tail _ (.head _))))).1, rfl, _, rfl⟩ ?_ (by rw [sizeLine_eq]; omega)
  intro h₃ F₃ N₃
  have hal : h₃.IsList _ _ := ⟨_, (N₃ _ (.head _)).1, rfl, _, rfl⟩
  have halt := Heap.lt_size (N₃ _ (.head _)).1
  dsimp only at hal halt
  have hST : BoolsAre (sd.toList ++ bk.toList) (S ++ T) := paired_append hS hT
  generalize hits : (sd.toList ++ bk.toList).toArray = its at hal N₃
  have hST' : BoolsAre its.toList (S ++ T) := by rw [← hits]; simpa using hST
  have hitl : its.size = (S ++ T).length := by have := hST'.length; rwa [Array.length_toList] at this
  have hitn : its.size ≤ 32 := by rw [hitl, List.length_append]; omega
  have hbool : ∀ (j : Nat) v, its[j]? = some v → ∃ b, v = Value.bool b := by
    intro j v hv
    have hj : j < (S ++ T).length := by rw [← hitl]; exact (Array.getElem?_eq_some_iff.mp hv).1
    obtain ⟨v', h1, h2⟩ := paired_get hST' j _ (List.getElem?_eq_getElem hj)
    rw [Array.getElem?_toList, hv] at h1
    exact ⟨_, (Option.some.inj h1).trans h2⟩
  generalize hDD : h₂.objs.size = DD at hal halt N₃
  have hDne : DD ≠ h₃.objs.size := Nat.ne_of_lt halt
  refine wpAny_pyIter_list hal ?_
  refine ⟨_, _, _, its.size, _, _, rfl, Walks.list (A := A.deeper _) hh _ DD hDne its, by rw [sizeLine_eq]; omega, ⟨⟨_, Heap.get?_push_size _ rfl, rfl, rfl⟩, hal.push _⟩, ?_, ?_, ?_⟩
  · intro b hb
    rw [Heap.size_push]
    rcases List.mem_cons.mp hb with rfl | hb
    · exact Nat.lt_succ_self _
    · rw [List.mem_singleton.mp hb]; exact Nat.lt_succ_of_lt halt
  · constructor
    · rintro C i v s₃ m₃ E' hC hP hn₃ hm₃ hk₃ _
      have Fc := comp_fr F₃ hC hn₃ hk₃
      obtain ⟨b, rfl⟩ := hbool i v hP
      refine wpAny_noRaise (wpAny_tests_one ?_)
      iterate 2 walk1
      cases b
      · iterate 4 walk1
        refine W.ite_pos rfl ?_
        iterate 6 walk1
        refine W.ite_neg (by decide) ?_
        exact ⟨rfl, s₃.heap, s₃.toks, rfl, fun _ _ e => e⟩
      · iterate 4 walk1
        refine W.ite_neg (by decide) ?_
        exact ⟨rfl, s₃.heap, s₃.toks, rfl, fun _ _ e => e⟩
    · rintro C i v s₃ m₃ E' hC hP hpv
      obtain ⟨b, rfl⟩ := hbool i v hP
      cases hpv
  intro D7 h₄ tk₄ ds7 vs7 hD7 hlD7 hplD7 hlen7 hP7 hF7 hk7
  have hfil : vs7.filter (fun v => match v with | .bool _ => false | _ => true) = [] := by
    rw [List.filter_eq_nil_iff]
    intro v hv hq
    obtain ⟨j, hj, rfl⟩ := List.getElem_of_mem hv
    obtain ⟨b, hb⟩ := hbool j _ (hP7 j _ (List.getElem?_eq_getElem hj))
    rw [hb] at hq
    cases hq
  rw [hfil] at hF7
  have hds7 : ds7 = #[] := by
    have := hF7.length
    rw [Array.length_toList] at this
    exact Array.eq_empty_of_size_eq_zero this.symm
  subst hds7
  obtain ⟨n7, hoD7⟩ := id hplD7
  have k4 := kept_push hk7
  have hD7n : h₃.get? D7 = none := push_none hD7
  obtain ⟨F₄, N₄, hne4⟩ := behind_call F₃ N₃ k4 hD7n hoD7
  clear F₂ N₂ F₃ N₃ k4 hk7 hF7 hP7 hlD7 hplD7 hal halt
  iterate 3 walk1
  (with_reducible rename Fr _ _ _ _ => F₅)
  (with_reducible rename News _ _ _ _ => N₅)
  refine ke_ne_ints (xs := []) (ys := []) ⟨_, (N₅ _ (.tail _ (.head _))).1, rfl, _, rfl⟩ ⟨_, (N₅ _ (.head _)).1, rfl, _, rfl⟩ .nil .nil (by show A.units + 3 + 64 < cLine; omega) ?_
  walk1
  refine W.ite_neg (by decide) ?_
  refine wpAny_execs_nil ?_
  have N₆ : News B L _ [(70, tabObj ps), (nl, W.listOf ny nn), (D5, W.listOf sd n5), (D6, W.listOf bk n6), (L + 1 + 1 + 1 + 1 + 1 + 1, o1), (L + 1 + 1 + 1 + 1 + 1, o2), (L + 1 + 1, o5)] := news_sub N₅ fun p hp => .tail _ (.tail _ (.tail _ hp))
  clear N₅ hne4 hoD7 hbool hST hST'
  -- changes
  refine wpR_execs_any ?_
  iterate 5 walk1
  refine wpAny_ListComp_free (fun v => match v with | .int k _ => S[k.toNat]? != S[k.toNat - 1]? | _ => false) (fun v y => y = v) (cl := [(Str.ofString "said", L + 1 + 1 + 1 + 1 + 1)]) rfl (by decide) rfl (by decide) rfl ?_
  iterate 15 walk1
  (with_reducible rename IsRange _ _ _ _ _ _ _ _ => hr)
  (with_reducible rename Fr _ _ _ _ => F₇)
  (with_reducible rename News _ _ _ _ => N₇)
  refine wpAny_pyIter_range hr (small_one (by omega) (by omega) (by omega) (by omega)) ?_
  have hsz1 : Builtin.Range.rangeSize 1 ((2 ^ cN : Nat) : Int) 1 = ((2 ^ cN - 1 : Nat) : Int) := by rw [rangeSize_one]; split <;> omega
  have hgs := (N₇ _ (.tail _ (.tail _ (.tail _ (.tail _ (.tail _ (.head _))))))).1
  have hg5 := (N₇ _ (.tail _ (.tail _ (.head _)))).1
  dsimp only at hgs hg5
  have hl5 : Heap.IsList _ D5 sd := ⟨_, hg5, rfl, n5, rfl⟩
  refine ⟨_, _, _, 2 ^ cN - 1, _, _, rfl, (Walks.range (A := A.deeper _) hh _ 1 1 (2 ^ cN - 1)).bound, by rw [sizeLine_eq]; omega, by show IsRangeIter _ _ _ _ _; rw [hsz1]; simpa using Heap.get?_push_size _ rfl, ?_, ?_, ?_⟩
  · intro b hb
    rw [List.mem_singleton.mp hb, Heap.size_push]; exact Nat.lt_succ_self _
  · constructor
    · rintro C j v s₃ m₃ E' hC ⟨hji, tj, rfl⟩ hn₃ hm₃ hk₃ _
      have k3 := kept_push hk₃
      have hcs3 : s₃.heap.IsCell (L + 1 + 1 + 1 + 1 + 1) (some (.ref D5)) := ⟨_, k3 _ _ hgs, d2⟩
      have hl53 := hl5.at fun o e => k3 _ o e
      rw [show (1 + (j : Int) * 1) = ((j + 1 : Nat) : Int) by omega] at hm₃ ⊢
      obtain ⟨b1, hb1, hb1'⟩ := bool_at hS (j := j + 1) (by rw [hSl]; omega)
      obtain ⟨b2, hb2, hb2'⟩ := bool_at hS (j := j) (by rw [hSl]; omega)
      refine wpAny_noRaise (wpAny_tests_one ?_)
      refine wpAny_isTrue_Compare1 (Subscript_ ?_)
      refine wpAny_Name (wpAny_loadName_cell rfl rfl rfl hcs3 (wpAny_Name (wpAny_loadName_local rfl rfl hn₃ hm₃ ?_) (by decide))) (by decide)
      refine tail_any hl53.typeIs slot_list_getitem.lookup (wpAny_getItem_list hl53 (by omega) (by omega) (by simpa using hb1) ?_) (by with_unfolding_all rfl)
      refine Subscript_ ?_
      refine wpAny_Name (wpAny_loadName_cell rfl rfl rfl hcs3 ?_) (by decide)
      refine wpAny_BinOp (wpAny_Name (wpAny_loadName_local rfl rfl hn₃ hm₃ (wpAny_Constant_int ?_)) (by decide))
      walk1
      rw [show (((j + 1 : Nat) : Int) - 1) = (j : Int) by omega]
      refine tail_any hl53.typeIs slot_list_getitem.lookup (wpAny_getItem_list hl53 (by omega) (by omega) (by simpa using hb2) ?_) (by with_unfolding_all rfl)
      iterate 2 walk1
      refine ⟨?_, s₃.heap, _, rfl, fun _ _ e => e⟩
      show (b1 != b2) = (S[((j + 1 : Nat) : Int).toNat]? != S[((j + 1 : Nat) : Int).toNat - 1]?)
      rw [Int.toNat_natCast, Nat.add_sub_cancel, hb1', hb2']
      cases b1 <;> cases b2 <;> rfl
    · rintro C j v s₃ m₃ E' hC ⟨_, tj, rfl⟩ _ hn₃ hm₃ hk₃ _
      refine wpAny_Name (wpAny_loadName_local rfl rfl hn₃ hm₃ ⟨rfl, s₃.heap, s₃.toks, rfl, fun _ _ e => e⟩) (by decide)
  intro D8 h₈ tk₈ ds8 vs8 hD8 hlD8 hplD8 hlen8 hP8 hF8 hk8
  have hch : ds8.size = changesN S := by
    have e1 := hF8.length
    rw [← Array.length_toList, ← e1, count_at (f := fun j => 1 + (j : Int) * 1) (pz := fun j => S[j + 1]? != S[j]?) hlen8 (fun j v e => (hP8 j v e).2) (fun j t => by
      show (S[(1 + (j : Int) * 1).toNat]? != S[(1 + (j : Int) * 1).toNat - 1]?) = _
      have e2 : (1 + (j : Int) * 1).toNat = j + 1 := by omega
      rw [e2, Nat.add_sub_cancel])]
    unfold changesN
    rw [hSl]
  have hchl : changesN S ≤ 16 := by
    unfold changesN
    have := List.length_filter_le (fun j => S[j + 1]? != S[j]?) (List.range (S.length - 1))
    rw [List.length_range] at this
    omega
  have k8 := kept_push hk8
  have F₈ := fr_kept F₇ k8
  have N₈ := news_kept N₇ k8
  clear F₇ N₇ hk8 hF8 hP8 k8 hplD8 hgs hg5 hl5 hr
  walk1
  refine len_list hlD8 (by omega) ?_
  rw [hch]
  walk1
  -- turned
  refine wpR_execs_cons (wpR_Assign_Name (wpR_Subscript (wpR_Call_Name ?_)))
  walk1
  refine' callWithR_K (K := Mine.hd.heap_39 w.params) ?hk ?_
  case hk => k_is
  iterate 14 walk1
  (with_reducible rename Fr _ _ _ _ => F₉)
  (with_reducible rename News _ _ _ _ => N₉)
  rw [cut_to (by omega)] at N₉
  refine ⟨X.keeps F₉.keep, ?_⟩
  have hwl : (cs.take cN).length = cN := by rw [List.length_take]; omega
  refine turned_spec (xs := [⟨(cs.take cN).toArray⟩]) (width := cN) (by omega) (by omega) (by simp) (by simp) ⟨_, (N₉ _ (.head _)).1, rfl, _, rfl⟩ (.cons ⟨_, rfl⟩ .nil) (fun x hx => by
      rw [List.mem_singleton.mp hx]; show (List.toArray _).size = _; rw [List.size_toArray, hwl]) (fun x hx c hc => by
      rw [List.mem_singleton.mp hx] at hc
      rcases hc01 c (List.mem_of_mem_take hc) with rfl | rfl <;> decide) (gb.keeps F₉.keep) (by show A.depth + 1 + 1 < _; omega) hh hgd ?_
  intro l9 h₁₀ tk₁₀ y9 k₁₀ hpl9 hy9 hn9
  have F₁₀ := fr_kept F₉ k₁₀
  have N₁₀' := news_kept N₉ k₁₀
  have N₁₀ : News B L _ [(70, tabObj ps), (nl, W.listOf ny nn), (D5, W.listOf sd n5), (D6, W.listOf bk n6), (L + 1 + 1 + 1 + 1 + 1 + 1, o1), (L + 1 + 1 + 1 + 1 + 1, o2), (L + 1 + 1, o5)] := news_sub N₁₀' fun p hp => .tail _ hp
  clear F₉ N₉ N₁₀'
  have hrv : revS ⟨(cs.take cN).toArray⟩ = ⟨(cs.take cN).reverse.toArray⟩ := by unfold revS; simp
  obtain ⟨v9, hv9, t9, rfl⟩ := paired_get hy9 0 _ rfl
  rw [hrv] at hv9
  walk1
  refine tail_any hpl9.isList.typeIs slot_list_getitem.lookup (wpAny_getItem_list hpl9.isList (by decide) (by decide) (by simpa using hv9) ?_) (by with_unfolding_all rfl)
  clear hpl9 hy9 hv9 hn9 k₁₀
  walk1
  refine wpR_execs_any ?_
  iterate 15 walk1
  (with_reducible rename Fr _ _ _ _ => F₁₁)
  (with_reducible rename News _ _ _ _ => N₁₁)
  refine ⟨X.keeps F₁₁.keep, ?_⟩
  refine num_spec (x := ⟨(cs.take cN).reverse.toArray⟩) (fun c hc => hc01 c (List.mem_of_mem_take (by simpa using hc))) (gb.keeps F₁₁.keep) (by show A.depth + 1 < _; omega) hh ?_
  intro t11 h₁₁ tk₁₁ k₁₁
  have F₁₂ := fr_kept F₁₁ k₁₁
  have N₁₂ := news_kept N₁₁ k₁₁
  clear F₁₁ N₁₁ k₁₁
  rw [hA]
  iterate 2 walk1
  refine W.ite_neg (by simp) ?_
  refine wpAny_execs_nil ?_
  -- alike
  refine wpR_of ?_
  refine wpAny_execs_cons ?_
  iterate 5 walk1
  refine wpAny_ListComp_free (fun v => match v with | .int k _ => S[k.toNat]? == T[k.toNat]? | _ => false) (fun v y => y = v) (cl := [(Str.ofString "said", L + 1 + 1 + 1 + 1 + 1), (Str.ofString "back", L + 1 + 1 + 1 + 1 + 1 + 1)]) rfl (by decide) rfl (by decide) rfl ?_
  iterate 13 walk1
  (with_reducible rename IsRange _ _ _ _ _ _ _ _ => hr2)
  (with_reducible rename Fr _ _ _ _ => F₁₃)
  (with_reducible rename News _ _ _ _ => N₁₃)
  refine wpAny_pyIter_range hr2 (small_one (by omega) (by omega) (by omega) (by omega)) ?_
  have hsz2 : Builtin.Range.rangeSize 0 ((2 ^ cN : Nat) : Int) 1 = ((2 ^ cN : Nat) : Int) := by rw [rangeSize_one]; split <;> omega
  have hgb := (N₁₃ _ (.tail _ (.tail _ (.tail _ (.tail _ (.head _)))))).1
  have hgs := (N₁₃ _ (.tail _ (.tail _ (.tail _ (.tail _ (.tail _ (.head _))))))).1
  have hg5 := (N₁₃ _ (.tail _ (.tail _ (.head _)))).1
  have hg6 := (N₁₃ _ (.tail _ (.tail _ (.tail _ (.head _))))).1
  dsimp only at hgb hgs hg5 hg6
  have hl5 : Heap.IsList _ D5 sd := ⟨_, hg5, rfl, n5, rfl⟩
  have hl6 : Heap.IsList _ D6 bk := ⟨_, hg6, rfl, n6, rfl⟩
  refine ⟨_, _, _, 2 ^ cN, _, _, rfl, (Walks.range (A := A.deeper _) hh _ 0 1 (2 ^ cN)).bound, by rw [sizeLine_eq]; omega, by show IsRangeIter _ _ _ _ _; rw [hsz2]; simpa using Heap.get?_push_size _ rfl, ?_, ?_, ?_⟩
  · intro b hb
    rw [List.mem_singleton.mp hb, Heap.size_push]; exact Nat.lt_succ_self _
  · constructor
    · rintro C j v s₃ m₃ E' hC ⟨hji, tj, rfl⟩ hn₃ hm₃ hk₃ _
      have k3 := kept_push hk₃
      have hcs3 : s₃.heap.IsCell (L + 1 + 1 + 1 + 1 + 1) (some (.ref D5)) := ⟨_, k3 _ _ hgs, d2⟩
      have hcb3 : s₃.heap.IsCell (L + 1 + 1 + 1 + 1 + 1 + 1) (some (.ref D6)) := ⟨_, k3 _ _ hgb, d1⟩
      have hl53 := hl5.at fun o e => k3 _ o e
      have hl63 := hl6.at fun o e => k3 _ o e
      rw [show (0 + (j : Int) * 1) = (j : Int) by omega] at hm₃ ⊢
      obtain ⟨b1, hb1, hb1'⟩ := bool_at hS (j := j) (by rw [hSl]; omega)
      obtain ⟨b2, hb2, hb2'⟩ := bool_at hT (j := j) (by rw [hTl]; omega)
      refine wpAny_noRaise (wpAny_tests_one ?_)
      refine wpAny_isTrue_Compare1 (Subscript_ ?_)
      refine wpAny_Name (wpAny_loadName_cell rfl rfl rfl hcs3 (wpAny_Name (wpAny_loadName_local rfl rfl hn₃ hm₃ ?_) (by decide))) (by decide)
      refine tail_any hl53.typeIs slot_list_getitem.lookup (wpAny_getItem_list hl53 (by omega) (by omega) (by simpa using hb1) ?_) (by with_unfolding_all rfl)
      refine Subscript_ ?_
      refine wpAny_Name (wpAny_loadName_cell rfl rfl rfl hcb3 (wpAny_Name (wpAny_loadName_local rfl rfl hn₃ hm₃ ?_) (by decide))) (by decide)
      refine tail_any hl63.typeIs slot_list_getitem.lookup (wpAny_getItem_list hl63 (by omega) (by omega) (by simpa using hb2) ?_) (by with_unfolding_all rfl)
      iterate 2 walk1
      refine ⟨?_, s₃.heap, _, rfl, fun _ _ e => e⟩
      show (b1 == b2) = (S[(j : Int).toNat]? == T[(j : Int).toNat]?)
      rw [Int.toNat_natCast, hb1', hb2']
      cases b1 <;> cases b2 <;> rfl
    · rintro C j v s₃ m₃ E' hC ⟨_, tj, rfl⟩ _ hn₃ hm₃ hk₃ _
      refine wpAny_Name (wpAny_loadName_local rfl rfl hn₃ hm₃ ⟨rfl, s₃.heap, s₃.toks, rfl, fun _ _ e => e⟩) (by decide)
  intro D9 h₁₄ tk₁₄ ds9 vs9 hD9 hlD9 hplD9 hlen9 hP9 hF9 hk9
  have hal2 : ds9.size = alikeN S T := by
    have e1 := hF9.length
    rw [← Array.length_toList, ← e1, count_at (f := fun j => 0 + (j : Int) * 1) (pz := fun j => S[j]? == T[j]?) hlen9 (fun j v e => (hP9 j v e).2) (fun j t => by
      show (S[(0 + (j : Int) * 1).toNat]? == T[(0 + (j : Int) * 1).toNat]?) = _
      have e2 : (0 + (j : Int) * 1).toNat = j := by omega
      rw [e2])]
    unfold alikeN
    rw [hSl]
  have hall : alikeN S T ≤ 16 := by
    unfold alikeN
    have := List.length_filter_le (fun j => S[j]? == T[j]?) (List.range S.length)
    rw [List.length_range] at this
    omega
  have k9 := kept_push hk9
  have F₁₄ := fr_kept F₁₃ k9
  have N₁₄ := news_kept N₁₃ k9
  clear F₁₃ N₁₃ hk9 hF9 hP9 k9 hplD9 hgs hg5 hg6 hgb hl5 hl6 hr2
  walk1
  refine len_list hlD9 (by omega) ?_
  rw [hal2]
  clear hlD9
  iterate 19 walk1
  rw [cut_from (by omega)]
  by_cases he : cs.drop cN = (cs.take cN).reverse
  · rw [if_pos he] at hB
    refine W.ite_pos (by rw [he]; exact beq_self_eq_true _) ?_
    iterate 8 walk1
    (with_reducible rename Fr _ _ _ _ => F₁₅)
    (with_reducible rename News _ _ _ _ => N₁₅)
    rw [hB, beq_self_eq_true]
    exact ret _ _ _ F₁₅ (N₁₅ _ (.head _)).1
  · rw [if_neg he] at hB
    refine W.ite_neg (fun q => he (by have := eq_of_beq q; injection this with this; exact (by simpa using congrArg Array.toList this))) ?_
    iterate 11 walk1
    (with_reducible rename Fr _ _ _ _ => F₁₅)
    (with_reducible rename News _ _ _ _ => N₁₅)
    have e2 : Int.fdiv ((2 ^ cN : Nat) : Int) 2 = ((2 ^ cN / 2 : Nat) : Int) := by rw [Int.fdiv_eq_ediv_of_nonneg _ (by omega)]; omega
    rw [hB, e2, beq_self_eq_true]
    exact ret _ _ _ F₁₅ (N₁₅ _ (.head _)).1
end
end Mine

end
section
open PySem PySem.W PySem.Spec PySem.Calls PyProof.Rows
set_option Elab.async false
set_option maxRecDepth 100000
set_option maxHeartbeats 4000000
namespace Mine
theorem offM0 : True := by
  w_top off
  trivial
def enc (s : Int × Bool) : Int := 2 * s.1 + if s.2 then 1 else 0
theorem enc_inj {s t : Int × Bool} (h : enc s = enc t) : s = t := by
  obtain ⟨a, x⟩ := s
  obtain ⟨b, y⟩ := t
  unfold enc at h
  cases x <;> cases y <;> simp at h
  · have : a = b := by omega
    rw [this]
  · omega
  · omega
  · have : a = b := by omega
    rw [this]
theorem enc_step {name : Str} {st : Int × Bool} {r : Str × Bool} (h : ¬ meets name r.1 = 0) : enc (aStep name st r) = max (enc st) (enc (meets name r.1, r.2)) := by
  obtain ⟨b, a⟩ := st
  obtain ⟨f, v⟩ := r
  unfold aStep
  dsimp only at h ⊢
  rw [if_neg h]
  generalize meets name f = m
  by_cases h1 : b < m
  · rw [if_pos h1]
    unfold enc
    cases a <;> cases v <;> simp <;> omega
  · rw [if_neg h1]
    by_cases h2 : m = b ∧ a = false
    · rw [if_pos h2]
      obtain ⟨rfl, rfl⟩ := h2
      unfold enc
      cases v <;> simp <;> omega
    · rw [if_neg h2]
      unfold enc
      cases a
      · have : ¬ m = b := fun e => h2 ⟨e, rfl⟩
        cases v <;> simp <;> omega
      · cases v <;> simp <;> omega
theorem aStep_comm (name : Str) (st : Int × Bool) (r1 r2 : Str × Bool) : aStep name (aStep name st r1) r2 = aStep name (aStep name st r2) r1 := by
  by_cases h1 : meets name r1.1 = 0
  · have e : ∀ s, aStep name s r1 = s := fun s => by unfold aStep; rw [if_pos h1]
    rw [e, e]
  · by_cases h2 : meets name r2.1 = 0
    · have e : ∀ s, aStep name s r2 = s := fun s => by unfold aStep; rw [if_pos h2]
      rw [e, e]
    · apply enc_inj
      rw [enc_step h2, enc_step h1, enc_step h1, enc_step h2]
      omega
theorem flat_perm {α β : Type} {f g : α → List β} (h : ∀ a, (f a).Perm (g a)) : ∀ l : List α, (l.flatMap f).Perm (l.flatMap g)
  | [] => by simp
  | a :: l => by
    rw [List.flatMap_cons, List.flatMap_cons]
    exact (h a).append (flat_perm h l)
theorem ruleOf_perm (word : Str) (turn : Int) (p : Nat) (nm : Str) : (ruleOf word turn p nm).Perm (ruleOf word 0 p nm) := by
  unfold ruleOf
  split
  · rw [if_pos (show Int.fmod 0 2 = 0 from rfl)]
    split
    · exact .refl _
    · exact .swap ..
  · exact .refl _
theorem rulesW_perm (word : Str) (turn : Int) : (rulesW word turn).Perm (rulesW word 0) := by
  refine flat_perm (fun p => ?_) _
  unfold rulesAt
  split
  · exact flat_perm (fun nm => ruleOf_perm word turn p nm) _
  · exact .refl _
theorem rot_perm (word : Str) (turn : Int) : (rotW word turn).Perm (rulesW word 0) := by
  refine List.Perm.trans ?_ (rulesW_perm word turn)
  unfold rotW
  dsimp only
  refine List.Perm.trans List.perm_append_comm ?_
  rw [List.take_append_drop]
theorem allow_rot (y word : Str) (turn : Int) : allowF y (rotW word turn) = allowF y (rulesW word 0) := by
  unfold allowF
  rw [List.Perm.foldl_eq' (rot_perm word turn) (fun x _ z _ st => aStep_comm y st x z)]
end Mine

end
section
open PySem PySem.W PySem.Spec PySem.Calls PyProof.Rows
set_option Elab.async false
set_option maxRecDepth 100000
set_option maxHeartbeats 4000000
namespace Mine
theorem offM1 : True := by
  w_top off
  trivial
/-- all words of so many figures -/
def wordsN : Nat → List (List Nat)
  | 0 => [[]]
  | n + 1 => (wordsN n).flatMap fun a => [48 :: a, 49 :: a]
theorem mem_wordsN : ∀ {n : Nat} {l : List Nat}, l.length = n → (∀ c ∈ l, c = 48 ∨ c = 49) → l ∈ wordsN n
  | 0, l, h, _ => by rw [List.eq_nil_of_length_eq_zero h]; exact .head _
  | n + 1, [], h, _ => by simp at h
  | n + 1, c :: l, h, hc => by
    rw [wordsN, List.mem_flatMap]
    refine ⟨l, mem_wordsN (by simpa using h) (fun x hx => hc x (.tail _ hx)), ?_⟩
    rcases hc c (.head _) with rfl | rfl <;> simp
/-- the names as rows of truth values, in the order of a dictionary -/
def bitsN : Nat → List (List Bool)
  | 0 => [[]]
  | n + 1 => (bitsN n).flatMap fun a => [a ++ [false], a ++ [true]]
def parity : List Nat → List Bool → Bool
  | c :: a, b :: r => if c = 49 ∧ b = true then !(parity a r) else parity a r
  | _, _ => true
def rowOf (n : Nat) (a : List Nat) : List Bool := (bitsN n).map (parity a)
theorem row3 : ∀ a ∈ wordsN 3, ((namesL 3).map fun y => allowF y (rulesW ⟨a.toArray⟩ 0)) = rowOf 3 a := by decide +kernel
theorem row4 : ∀ a ∈ wordsN 4, ((namesL 4).map fun y => allowF y (rulesW ⟨a.toArray⟩ 0)) = rowOf 4 a := by decide +kernel
theorem rowR3 : ∀ a ∈ wordsN 3, (((namesL 3).map revS).map fun y => allowF y (rulesW ⟨a.toArray⟩ 0)) = rowOf 3 a.reverse := by decide +kernel
theorem rowR4 : ∀ a ∈ wordsN 4, (((namesL 4).map revS).map fun y => allowF y (rulesW ⟨a.toArray⟩ 0)) = rowOf 4 a.reverse := by decide +kernel
theorem gray3 : ∀ a ∈ wordsN 3, Builtin.bitXor (changesN (rowOf 3 a) : Int) (Int.fdiv (changesN (rowOf 3 a) : Int) 2) = numL a.reverse := by decide +kernel
theorem gray4 : ∀ a ∈ wordsN 4, Builtin.bitXor (changesN (rowOf 4 a) : Int) (Int.fdiv (changesN (rowOf 4 a) : Int) 2) = numL a.reverse := by decide +kernel
theorem alike3 : ∀ a ∈ wordsN 3, ∀ b ∈ wordsN 3, alikeN (rowOf 3 a) (rowOf 3 b.reverse) = if b = a.reverse then 2 ^ 3 else 2 ^ 3 / 2 := by decide +kernel
theorem alike4 : ∀ a ∈ wordsN 4, ∀ b ∈ wordsN 4, alikeN (rowOf 4 a) (rowOf 4 b.reverse) = if b = a.reverse then 2 ^ 4 else 2 ^ 4 / 2 := by decide +kernel
/-- the plain law -/
theorem law_math {cN : Nat} {cs : List Nat} {turn : Int} (hc : cN = 3 ∨ cN = 4) (hl : cs.length = 2 * cN) (h01 : ∀ c ∈ cs, c = 48 ∨ c = 49) :
    Builtin.bitXor (changesN ((namesL cN).map fun y => allowF y (rotW ⟨(cs.take cN).toArray⟩ turn)) : Int) (Int.fdiv (changesN ((namesL cN).map fun y => allowF y (rotW ⟨(cs.take cN).toArray⟩ turn)) : Int) 2) = numL (cs.take cN).reverse ∧
    alikeN ((namesL cN).map fun y => allowF y (rotW ⟨(cs.take cN).toArray⟩ turn)) (((namesL cN).map revS).map fun y => allowF y (rotW ⟨(cs.drop cN).toArray⟩ turn)) = if cs.drop cN = (cs.take cN).reverse then 2 ^ cN else 2 ^ cN / 2 := by
  have ha : cs.take cN ∈ wordsN cN := mem_wordsN (by rw [List.length_take]; omega) fun c h => h01 c (List.mem_of_mem_take h)
  have hb : cs.drop cN ∈ wordsN cN := mem_wordsN (by rw [List.length_drop]; omega) fun c h => h01 c (List.mem_of_mem_drop h)
  simp only [allow_rot]
  generalize cs.take cN = a at ha ⊢
  generalize cs.drop cN = b at hb ⊢
  rcases hc with rfl | rfl
  · rw [row3 a ha, rowR3 b hb]
    exact ⟨gray3 a ha, alike3 a ha b hb⟩
  · rw [row4 a ha, rowR4 b hb]
    exact ⟨gray4 a ha, alike4 a ha b hb⟩
end Mine

end
section
open PySem PySem.W PySem.Spec PySem.Calls PyProof.Rows
set_option Elab.async false
set_option maxRecDepth 100000
set_option maxHeartbeats 4000000
namespace Mine
theorem offW2 : True := by
  w_top off
  trivial
theorem fillW2 : PySem.Challenge.rw_rl0017_01 = PySem.Challenge.rw_rl0017_01 ∧ hd.heap_39 = hd.heap_39 := by
  k_fill
  exact ⟨rfl, rfl⟩
section
variable {prog : Program} {w : World} {A : Around} {s : Shared} {E : Value → Shared → Prop}
theorem law_tail {B h : Heap} {L nl D : Addr} {tk nn cN : Nat} {tf tt tc : Tok} {turn : Int} {ny : Array Value} {cs : List Nat} {o1 o2 o3 o4 o5 o6 : Obj} {v1 v2 v3 v4 v6 : Option Value} {qual : Str} {scope : Scope} {cdv : Value} {body : List Stmt} {Q : Flow → Shared → Prop}
    (hbd : bodyOf ((hd.heap_39 w.params).lookup 97) = some (qual, scope, cdv, body)) (gb : Gd w B) (h7L : @LT.lt Nat _ 70 L) (hd : A.depth + 5 < recursionLimit) (hh : A.handled = none) (hgd : A.guards = some []) (hun : A.units + 100 < cLine)
    (F : Fr B L h fun z => if z = Str.ofString "names" then some (.ref nl) else if z = Str.ofString "turn" then some (.int turn tt) else if z = Str.ofString "figures" then some (.str ⟨cs.toArray⟩ tf) else if z = Str.ofString "numbers" then some (.ref D) else none)
    (N : News B L h [(70, tabObj #[]), (nl, W.listOf ny nn), (L + 1 + 1 + 1 + 1 + 1 + 1, o1), (L + 1 + 1 + 1 + 1 + 1, o2), (L + 1 + 1 + 1 + 1, o3), (L + 1 + 1 + 1, o4), (L + 1 + 1, o5), (L + 1, o6)])
    (q70 : ¬ nl = 70) (q6 : ¬ nl = L + 1 + 1 + 1 + 1 + 1 + 1) (q5 : ¬ nl = L + 1 + 1 + 1 + 1 + 1) (q4 : ¬ nl = L + 1 + 1 + 1 + 1) (q3 : ¬ nl = L + 1 + 1 + 1) (d1 : o1.data = .cell v1) (d2 : o2.data = .cell v2) (d3 : o3.data = .cell v3) (d4 : o4.data = .cell v4) (d5 : o5.data = .cell (some (.int (cN : Int) tc))) (d6 : o6.data = .cell v6)
    (hny : StrsAre ny.toList (namesL cN)) (hc34 : cN = 3 ∨ cN = 4) (hcs : cs.length = 2 * cN) (hc01 : ∀ c ∈ cs, c = 48 ∨ c = 49)
    (ret : ∀ h' tk' m' ps, Fr B L h' m' → h'.get? 70 = some (tabObj ps) → Q (.ret (.bool true)) { s with heap := h', toks := tk' }) :
    wpR (model prog w) (A.deeper (envOfC qual scope L 97 cdv)) (execs (body.drop 4) (envOfC qual scope L 97 cdv)) Q (fun _ _ => False) { s with heap := h, toks := tk } := by
  have hbd0 := hbd
  replace hbd := body_is (by k_is) hbd
  simp only [bodyOf] at hbd
  injection hbd with hbd
  injection hbd with e1 hbd
  injection hbd with e2 hbd
  injection hbd with e3 e4
  subst e1 e2 e3 e4
  dsimp only [List.drop]
  have X := gb.X
  obtain ⟨lo, mn, mg, mb, T⟩ := gb.T
  refine wpR_execs_any ?_
  iterate 18 walk1
  rw [cut_to (by omega)]
  (with_reducible rename Fr _ _ _ _ => F₁)
  (with_reducible rename News _ _ _ _ => N₁)
  have hw1 : (cs.take cN).length = cN := by rw [List.length_take]; omega
  have hw2 : (cs.drop cN).length = cN := by rw [List.length_drop]; omega
  refine ⟨X.keeps F₁.keep, ?_⟩
  refine rec_spec (kn := []) (by show (List.toArray _).size ≤ 8; rw [List.size_toArray, hw1]; omega) (gb.keeps F₁.keep) (N₁ _ (.head _)).1 (.inl rfl) (by show A.depth + 1 + 3 < _; omega) hh ?_
  intro x1 h₂ tk₂ ps1 nw1 k₂ h70₂ hnw1 hT1 hR1
  have hsep : ∀ p ∈ [(nl, W.listOf ny nn), (L + 1 + 1 + 1 + 1 + 1 + 1, o1), (L + 1 + 1 + 1 + 1 + 1, o2), (L + 1 + 1 + 1 + 1, o3), (L + 1 + 1 + 1, o4), (L + 1 + 1, o5), (L + 1, o6)], p.1 ≠ 70 := by
    intro p hp
    simp only [List.mem_cons, List.not_mem_nil, or_false] at hp
    rcases hp with rfl | rfl | rfl | rfl | rfl | rfl | rfl <;> dsimp only <;> first | exact q70 | (apply Nat.ne_of_gt; show @LT.lt Nat _ 70 _; omega)
  have hsz1 : @LT.lt Nat _ (L + 1 + 1 + 1 + 1 + 1 + 1) _ := Heap.lt_size (N₁ _ (.tail _ (.tail _ (.head _)))).1
  obtain ⟨F₂, N₂'⟩ := step70 F₁ N₁ hsep k₂ h70₂ hnw1
  have N₂ : News B L h₂ ((70, tabObj ps1) :: ([(nl, W.listOf ny nn), (L + 1 + 1 + 1 + 1 + 1 + 1, o1), (L + 1 + 1 + 1 + 1 + 1, o2), (L + 1 + 1 + 1 + 1, o3), (L + 1 + 1 + 1, o4), (L + 1 + 1, o5), (L + 1, o6)] ++ nw1)) := news_sub N₂' fun p hp => mem_front hp
  clear F₁ N₁ N₂'
  have hnl1 : ∀ p ∈ nw1, @LT.lt Nat _ (L + 1 + 1 + 1 + 1 + 1 + 1) p.1 := fun p hp => Nat.lt_of_lt_of_le hsz1 (hnw1 p hp).2
  iterate 16 walk1
  rw [cut_from (by omega)]
  (with_reducible rename Fr _ _ _ _ => F₃)
  (with_reducible rename News _ _ _ _ => N₃)
  refine ⟨X.keeps F₃.keep, ?_⟩
  refine rec_spec (kn := nw1 ++ []) (by show (List.toArray _).size ≤ 8; rw [List.size_toArray, hw2]; omega) (gb.keeps F₃.keep) (N₃ _ (.head _)).1 hT1 (by show A.depth + 1 + 3 < _; omega) hh ?_
  intro x2 h₄ tk₄ ps2 nw2 k₄ h70₄ hnw2 hT2 hR2
  have hsz2 : @LT.lt Nat _ (L + 1 + 1 + 1 + 1 + 1 + 1) _ := Heap.lt_size (N₃ _ (.tail _ (.tail _ (.head _)))).1
  obtain ⟨F₄, N₄'⟩ := step70 F₃ N₃ (fun p hp => by
    rcases List.mem_append.mp (show p ∈ [(nl, W.listOf ny nn), (L + 1 + 1 + 1 + 1 + 1 + 1, o1), (L + 1 + 1 + 1 + 1 + 1, o2), (L + 1 + 1 + 1 + 1, o3), (L + 1 + 1 + 1, o4), (L + 1 + 1, o5), (L + 1, o6)] ++ nw1 from hp) with hp | hp
    · exact hsep p hp
    · exact Nat.ne_of_gt (Nat.lt_trans (show @LT.lt Nat _ 70 (L + 1 + 1 + 1 + 1 + 1 + 1) by omega) (hnl1 p hp))) k₄ h70₄ hnw2
  have hnl2 : ∀ p ∈ nw2 ++ nw1, @LT.lt Nat _ (L + 1 + 1 + 1 + 1 + 1 + 1) p.1 := fun p hp => by
    rcases List.mem_append.mp hp with hp | hp
    · exact Nat.lt_of_lt_of_le hsz2 (hnw2 p hp).2
    · exact hnl1 p hp
  have hG1 : RecG w (inL (nw2 ++ nw1)) x1 (rotW ⟨(cs.take cN).toArray⟩ turn) := hR1.mono fun b o e => List.mem_append_right _ (by simpa using e)
  have hG2 : RecG w (inL (nw2 ++ nw1)) x2 (rotW ⟨(cs.drop cN).toArray⟩ turn) := hR2.mono fun b o e => by simpa using e
  have N₄ : News B L h₄ ((70, tabObj ps2) :: ([(nl, W.listOf ny nn), (L + 1 + 1 + 1 + 1 + 1 + 1, o1), (L + 1 + 1 + 1 + 1 + 1, o2), (L + 1 + 1 + 1 + 1, o3), (L + 1 + 1 + 1, o4), (L + 1 + 1, o5), (L + 1, o6)] ++ (nw2 ++ nw1))) := news_sub N₄' fun p hp => by
    simp only [List.mem_cons, List.mem_append, List.cons_append, List.nil_append] at hp ⊢
    rcases hp with h | h | h | h | h | h | h | h | h | h <;> simp [h]
  clear F₃ N₃ N₄'
  generalize nw2 ++ nw1 = im at hnl2 hG1 hG2 N₄
  iterate 2 walk1
  (with_reducible rename Fr _ _ _ _ => F₅)
  (with_reducible rename News _ _ _ _ => N₅)
  have hgt := (N₅ _ (.head _)).1
  refine wpAny_assign_Tuple (items := #[.ref x1, .ref x2]) hh ⟨_, hgt, rfl, _, rfl⟩ rfl rfl ?_
  intro h₆ he6
  have k6 := fun b o e => he6 b o (Nat.ne_of_lt (Heap.lt_size e)) e
  have F₆ := fr_kept F₅ k6
  have N₆ := news_kept N₅ k6
  clear F₅ N₅ k6 he6 hgt
  have N₇ : News B L h₆ ((L + 1 + 1 + 1, o4) :: ([(70, tabObj ps2), (nl, W.listOf ny nn), (L + 1 + 1 + 1 + 1 + 1 + 1, o1), (L + 1 + 1 + 1 + 1 + 1, o2), (L + 1 + 1 + 1 + 1, o3), (L + 1 + 1, o5), (L + 1, o6)] ++ im)) := news_sub N₆ fun p hp => by
    simp only [List.mem_cons, List.mem_append, List.cons_append, List.nil_append] at hp ⊢
    rcases hp with h | h | h | h | h | h | h | h | h <;> simp [h]
  clear N₆
  have nea : ∀ {a b : Nat}, a < b ∨ b < a → ¬ ((a : Addr) = b) := fun h e => by
    have e' : @Eq Nat _ _ := e
    omega
  iterate 2 walk1
  refine store_cell F₆ N₇ d4 ?_ ?_ rfl rfl rfl
  · intro p hp
    rcases List.mem_append.mp hp with hp | hp
    · simp only [List.mem_cons, List.not_mem_nil, or_false] at hp
      rcases hp with rfl | rfl | rfl | rfl | rfl | rfl | rfl <;> first | exact nea (by omega) | assumption
    · have := hnl2 p hp
      exact nea (by omega)
  intro h₇ o4' F₇ N₈ d4'
  have N₉ : News B L h₇ ((L + 1 + 1 + 1 + 1, o3) :: ([(70, tabObj ps2), (nl, W.listOf ny nn), (L + 1 + 1 + 1 + 1 + 1 + 1, o1), (L + 1 + 1 + 1 + 1 + 1, o2), (L + 1 + 1 + 1, o4'), (L + 1 + 1, o5), (L + 1, o6)] ++ im)) := news_sub N₈ fun p hp => by
    simp only [List.mem_cons, List.mem_append, List.cons_append, List.nil_append] at hp ⊢
    rcases hp with h | h | h | h | h | h | h | h | h <;> simp [h]
  clear F₆ N₇ N₈
  iterate 2 walk1
  refine store_cell F₇ N₉ d3 ?_ ?_ rfl rfl rfl
  · intro p hp
    rcases List.mem_append.mp hp with hp | hp
    · simp only [List.mem_cons, List.not_mem_nil, or_false] at hp
      rcases hp with rfl | rfl | rfl | rfl | rfl | rfl | rfl <;> first | exact nea (by omega) | assumption
    · have := hnl2 p hp
      exact nea (by omega)
  intro h₈ o3' F₈ N₁₀ d3'
  have N₁₁ : News B L h₈ ([(70, tabObj ps2), (nl, W.listOf ny nn), (L + 1 + 1 + 1 + 1 + 1 + 1, o1), (L + 1 + 1 + 1 + 1 + 1, o2), (L + 1 + 1 + 1 + 1, o3'), (L + 1 + 1 + 1, o4'), (L + 1 + 1, o5), (L + 1, o6)] ++ im) := news_sub N₁₀ fun p hp => by
    simp only [List.mem_cons, List.mem_append, List.cons_append, List.nil_append] at hp ⊢
    rcases hp with h | h | h | h | h | h | h | h | h <;> simp [h]
  clear F₇ N₉ N₁₀
  walk1
  refine wpR_execs_any ?_
  walk1
  have hgf := (N₁₁ _ (.tail _ (.tail _ (.tail _ (.tail _ (.tail _ (.head _))))))).1
  have hgn := (N₁₁ _ (.tail _ (.head _))).1
  dsimp only at hgf hgn
  have hlnl : h₈.IsList nl ny := ⟨_, hgn, rfl, _, rfl⟩
  have hnsz : ny.size = 2 ^ cN := by
    have := hny.length
    rw [Array.length_toList, namesL_length] at this; exact this
  have hnsz' : ny.size ≤ 16 := by rw [hnsz]; rcases hc34 with rfl | rfl <;> decide
  have hne8 : nl ≠ h₈.objs.size := Nat.ne_of_lt (Heap.lt_size hgn)
  have hR1len : ∀ p ∈ rotW ⟨(cs.take cN).toArray⟩ turn, p.1.length ≤ 100 := fun p hp => Nat.le_trans (rot_len hp) (by show (List.toArray _).size ≤ 100; rw [List.size_toArray, hw1]; omega)
  have hR2len : ∀ p ∈ rotW ⟨(cs.drop cN).toArray⟩ turn, p.1.length ≤ 100 := fun p hp => Nat.le_trans (rot_len hp) (by show (List.toArray _).size ≤ 100; rw [List.size_toArray, hw2]; omega)
  refine wpAny_ListComp_free (fun _ => true) (fun v y => ∃ (a : Str) (t : Tok), v = .str a t ∧ y = Value.bool (allowF a (rotW ⟨(cs.take cN).toArray⟩ turn))) (cl := [(Str.ofString "first", L + 1 + 1 + 1)]) rfl (by decide) rfl (by decide) rfl ?_
  walk1
  refine wpAny_pyIter_list hlnl ?_
  refine ⟨_, _, _, ny.size, _, _, rfl, Walks.list (A := A.deeper _) hh _ nl hne8 ny, by rw [sizeLine_eq]; omega, ⟨⟨_, Heap.get?_push_size _ rfl, rfl, rfl⟩, hlnl.push _⟩, ?_, ?_, ?_⟩
  · intro b hb
    rw [Heap.size_push]
    rcases List.mem_cons.mp hb with rfl | hb
    · exact Nat.lt_succ_self _
    · rw [List.mem_singleton.mp hb]; exact Nat.lt_succ_of_lt (Heap.lt_size hgn)
  · constructor
    · rintro C i v s₃ m₃ E' hC hP hn₃ hm₃ hk₃ _
      exact wpAny_pure ⟨rfl, s₃.heap, s₃.toks, rfl, fun _ _ e => e⟩
    · rintro C j v s₃ m₃ E' hC hj _ hn₃ hm₃ hk₃ _
      have Fc := comp_fr F₈ hC hn₃ hk₃
      have k3 := kept_push hk₃
      obtain ⟨a, ha⟩ : ∃ a, (namesL cN)[j]? = some a := ⟨_, List.getElem?_eq_getElem (by
        have h1 := (Array.getElem?_eq_some_iff.mp hj).1
        rw [namesL_length, ← hnsz]; exact h1)⟩
      obtain ⟨v', hv', ta, rfl⟩ := paired_get hny j a ha
      have hvv : v = .str a ta := by
        have h1 : ny[j]? = some (.str a ta) := by simpa using hv'
        exact Option.some.inj (hj.symm.trans h1)
      subst hvv
      have hcf : s₃.heap.IsCell (L + 1 + 1 + 1) (some (.ref x1)) := ⟨_, k3 _ _ hgf, d4'⟩
      have hGc : RecG w (inH s₃.heap) x1 (rotW ⟨(cs.take cN).toArray⟩ turn) := hG1.mono fun b o e => k3 _ _ (N₁₁ (b, o) (List.mem_append_right _ e)).1
      iterate 2 walk1
      refine wpAny_Name (wpAny_loadName_cell rfl rfl rfl hcf ?_) (by decide)
      refine rec_method hGc (gb.keeps Fc.keep) ?_
      iterate 4 walk1
      refine ⟨X.keeps Fc.keep, ?_⟩
      refine allow_spec hGc hR1len (gb.keeps Fc.keep) (by show A.depth + 1 + 1 < _; omega) hh ?_
      intro h₁₀ tk₁₀ k₁₀
      exact ⟨⟨a, ta, rfl, rfl⟩, h₁₀, _, rfl, k₁₀⟩
  intro D5 h₉ tk₉ sd vs5 hD5 hlD5 hplD5 hlen5 hP5 hF5 hk5
  rw [List.filter_eq_self.mpr (fun _ _ => rfl)] at hF5
  have hsaid := bools_of hF5 hlen5 hP5 hny
  obtain ⟨n5, hoD5⟩ := id hplD5
  have k9 := kept_push hk5
  have hD5n : h₈.get? D5 = none := push_none hD5
  obtain ⟨F₉, N₁₂, hne9⟩ := behind_call F₈ N₁₁ k9 hD5n hoD5
  clear F₈ N₁₁ hk5 hF5 hP5 k9 hgf hgn hlnl hlD5 hplD5
  have hG1' : RecG w (inL ((D5, W.listOf sd n5) :: im)) x1 (rotW ⟨(cs.take cN).toArray⟩ turn) := hG1.mono fun b o e => .tail _ e
  have hG2' : RecG w (inL ((D5, W.listOf sd n5) :: im)) x2 (rotW ⟨(cs.drop cN).toArray⟩ turn) := hG2.mono fun b o e => .tail _ e
  have hc5 : (D5, W.listOf sd n5) ∈ (D5, W.listOf sd n5) :: im := .head _
  have hs5 : ∀ p ∈ (D5, W.listOf sd n5) :: im, ¬ (p.1 = L + 1 + 1 + 1 + 1 + 1) ∧ ¬ (p.1 = L + 1 + 1 + 1 + 1 + 1 + 1) := by
    intro p hp
    rcases List.mem_cons.mp hp with rfl | hp
    · exact ⟨fun e => hne9 (L + 1 + 1 + 1 + 1 + 1, o2) (.tail _ (.tail _ (.tail _ (.head _)))) e.symm, fun e => hne9 (L + 1 + 1 + 1 + 1 + 1 + 1, o1) (.tail _ (.tail _ (.head _))) e.symm⟩
    · have := hnl2 p hp
      exact ⟨nea (by omega), nea (by omega)⟩
  have N₁₃ : News B L h₉ ((L + 1 + 1 + 1 + 1 + 1, o2) :: ([(70, tabObj ps2), (nl, W.listOf ny nn), (L + 1 + 1 + 1 + 1 + 1 + 1, o1), (L + 1 + 1 + 1 + 1, o3'), (L + 1 + 1 + 1, o4'), (L + 1 + 1, o5), (L + 1, o6)] ++ ((D5, W.listOf sd n5) :: im))) := news_sub N₁₂ fun p hp => by
    simp only [List.mem_cons, List.mem_append, List.cons_append, List.nil_append] at hp ⊢
    rcases hp with h | h | h | h | h | h | h | h | h | h <;> simp [h]
  generalize hgim : (D5, W.listOf sd n5) :: im = im5 at hG1' hG2' hc5 hs5 N₁₃
  clear N₁₂ hG1 hG2 hgim
  refine store_cell F₉ N₁₃ d2 ?_ ?_ rfl rfl rfl
  · intro p hp
    rcases List.mem_append.mp hp with hp | hp
    · simp only [List.mem_cons, List.not_mem_nil, or_false] at hp
      rcases hp with rfl | rfl | rfl | rfl | rfl | rfl | rfl <;> first | exact nea (by omega) | assumption
    · exact (hs5 p hp).1
  intro h₁₁ o2' F₁₀ N₁₄ d2'
  have N₁₅ : News B L h₁₁ ([(70, tabObj ps2), (nl, W.listOf ny nn), (L + 1 + 1 + 1 + 1 + 1 + 1, o1), (L + 1 + 1 + 1 + 1 + 1, o2'), (L + 1 + 1 + 1 + 1, o3'), (L + 1 + 1 + 1, o4'), (L + 1 + 1, o5), (L + 1, o6)] ++ im5) := news_sub N₁₄ fun p hp => by
    simp only [List.mem_cons, List.mem_append, List.cons_append, List.nil_append] at hp ⊢
    rcases hp with h | h | h | h | h | h | h | h | h <;> simp [h]
  clear F₉ N₁₃ N₁₄ hne9
  -- back
  refine wpR_execs_cons (wpR_Assign_Name ?_)
  refine wpR_ListComp_free (fun _ => true) (fun v y => ∃ (a : Str) (t : Tok), v = .str a t ∧ y = Value.bool (allowF a (rotW ⟨(cs.drop cN).toArray⟩ turn))) (cl := [(Str.ofString "second", L + 1 + 1 + 1 + 1)]) rfl (by decide) rfl (by decide) rfl ?_
  refine wpR_Call_Name ?_
  walk1
  refine' callWithR_K (K := Mine.hd.heap_39 w.params) ?hk ?_
  case hk => k_is
  iterate 3 walk1
  have hgn := (N₁₅ _ (.tail _ (.head _))).1
  have hgc2 := (N₁₅ _ (.tail _ (.tail _ (.tail _ (.tail _ (.head _)))))).1
  dsimp only at hgn hgc2
  have hlnl : h₁₁.IsList nl ny := ⟨_, hgn, rfl, _, rfl⟩
  have h2c : 2 ^ cN ≤ 16 := by rcases hc34 with rfl | rfl <;> decide
  have h2p : 0 < 2 ^ cN := Nat.pow_pos (by decide)
  refine ⟨X.keeps F₁₀.keep, ?_⟩
  refine turned_spec (xs := namesL cN) (width := cN) (by omega) (by omega) (by rw [namesL_length]; exact h2p) (by rw [namesL_length]; omega) hlnl hny (namesL_len cN) (fun x hx c hc => by rcases names_chars cN x hx c hc with rfl | rfl <;> decide) (gb.keeps F₁₀.keep) (by show A.depth + 1 + 1 < _; omega) hh hgd ?_
  intro l2 h₁₂ tk₁₂ ry k₁₂ hrpl hry hrn
  obtain ⟨rn, hrl⟩ := id hrpl
  obtain ⟨F₁₁, N₁₆, hne12⟩ := behind_call F₁₀ N₁₅ k₁₂ hrn hrl
  have hrlist : h₁₂.IsList l2 ry := ⟨_, hrl, rfl, rn, rfl⟩
  have hrsz : ry.size = 2 ^ cN := by
    have := hry.length
    rw [Array.length_toList, List.length_map, namesL_length] at this; exact this
  have hne13 : l2 ≠ h₁₂.objs.size := Nat.ne_of_lt (Heap.lt_size hrl)
  have hgc3 := k₁₂ _ _ hgc2
  refine wpAny_pyIter_list hrlist ?_
  refine ⟨_, _, _, ry.size, _, _, rfl, Walks.list (A := A.deeper _) hh _ l2 hne13 ry, by rw [sizeLine_eq]; omega, ⟨⟨_, Heap.get?_push_size _ rfl, rfl, rfl⟩, hrlist.push _⟩, ?_, ?_, ?_⟩
  · intro b hb
    rw [Heap.size_push]
    rcases List.mem_cons.mp hb with rfl | hb
    · exact Nat.lt_succ_self _
    · rw [List.mem_singleton.mp hb]; exact Nat.lt_succ_of_lt (Heap.lt_size hrl)
  · constructor
    · rintro C i v s₃ m₃ E' hC hP hn₃ hm₃ hk₃ _
      exact wpAny_pure ⟨rfl, s₃.heap, s₃.toks, rfl, fun _ _ e => e⟩
    · rintro C j v s₃ m₃ E' hC hj _ hn₃ hm₃ hk₃ _
      have Fc := comp_fr F₁₁ hC hn₃ hk₃
      have k3 := kept_push hk₃
      obtain ⟨a, ha⟩ : ∃ a, ((namesL cN).map revS)[j]? = some a := ⟨_, List.getElem?_eq_getElem (by
        have h1 := (Array.getElem?_eq_some_iff.mp hj).1
        rw [List.length_map, namesL_length, ← hrsz]; exact h1)⟩
      obtain ⟨v', hv', ta, rfl⟩ := paired_get hry j a ha
      have hvv : v = .str a ta := by
        have h1 : ry[j]? = some (.str a ta) := by simpa using hv'
        exact Option.some.inj (hj.symm.trans h1)
      subst hvv
      have hcf : s₃.heap.IsCell (L + 1 + 1 + 1 + 1) (some (.ref x2)) := ⟨_, k3 _ _ hgc3, d3'⟩
      have hGc : RecG w (inH s₃.heap) x2 (rotW ⟨(cs.drop cN).toArray⟩ turn) := hG2'.mono fun b o e => k3 _ _ (N₁₆ (b, o) (.tail _ (List.mem_append_right _ e))).1
      iterate 2 walk1
      refine wpAny_Name (wpAny_loadName_cell rfl rfl rfl hcf ?_) (by decide)
      refine rec_method hGc (gb.keeps Fc.keep) ?_
      iterate 4 walk1
      refine ⟨X.keeps Fc.keep, ?_⟩
      refine allow_spec hGc hR2len (gb.keeps Fc.keep) (by show A.depth + 1 + 1 < _; omega) hh ?_
      intro h₁₀ tk₁₀ k₁₀
      exact ⟨⟨a, ta, rfl, rfl⟩, h₁₀, _, rfl, k₁₀⟩
  intro D6 h₁₃ tk₁₃ bk vs6 hD6 hlD6 hplD6 hlen6 hP6 hF6 hk6
  rw [List.filter_eq_self.mpr (fun _ _ => rfl)] at hF6
  have hback := bools_of hF6 hlen6 hP6 hry
  obtain ⟨n6, hoD6⟩ := id hplD6
  have k13 := kept_push hk6
  have hD6n : h₁₂.get? D6 = none := push_none hD6
  obtain ⟨F₁₂, N₁₇, hne14⟩ := behind_call F₁₁ N₁₆ k13 hD6n hoD6
  clear F₁₀ N₁₅ F₁₁ N₁₆ hk6 hF6 hP6 k13 hgn hgc2 hgc3 hlnl hlD6 hplD6 hrl hrlist hrpl
  have hD5m := N₁₇ (D5, W.listOf sd n5) (.tail _ (.tail _ (List.mem_append_right _ hc5)))
  have N₁₈ : News B L h₁₃ ((L + 1 + 1 + 1 + 1 + 1 + 1, o1) :: [(70, tabObj ps2), (nl, W.listOf ny nn), (D5, W.listOf sd n5), (D6, W.listOf bk n6), (L + 1 + 1 + 1 + 1 + 1, o2'), (L + 1 + 1, o5)]) := fun p hp => by
    by_cases h5 : p = (D5, W.listOf sd n5)
    · rw [h5]; exact hD5m
    · refine N₁₇ p ?_
      simp only [List.mem_cons, List.mem_append, List.cons_append, List.nil_append, List.not_mem_nil, or_false] at hp ⊢
      rcases hp with h | h | h | h | h | h | h
      · simp [h]
      · simp [h]
      · simp [h]
      · exact absurd h h5
      · simp [h]
      · simp [h]
      · simp [h]
  refine store_cell F₁₂ N₁₈ d1 ?_ ?_ rfl rfl rfl
  · intro p hp
    simp only [List.mem_cons, List.not_mem_nil, or_false] at hp
    rcases hp with rfl | rfl | rfl | rfl | rfl | rfl
    · exact nea (by omega)
    · exact q6
    · exact (hs5 _ hc5).2
    · exact fun e => hne14 (L + 1 + 1 + 1 + 1 + 1 + 1, o1) (.tail _ (.tail _ (.tail _ (.head _)))) e.symm
    · exact nea (by omega)
    · exact nea (by omega)
  intro h₁₄ o1' F₁₃ N₁₉ d1'
  have N₂₀ : News B L h₁₄ [(70, tabObj ps2), (nl, W.listOf ny nn), (D5, W.listOf sd n5), (D6, W.listOf bk n6), (L + 1 + 1 + 1 + 1 + 1 + 1, o1'), (L + 1 + 1 + 1 + 1 + 1, o2'), (L + 1 + 1, o5)] := news_sub N₁₉ fun p hp => by
    simp only [List.mem_cons, List.not_mem_nil, or_false] at hp ⊢
    rcases hp with h | h | h | h | h | h | h <;> simp [h]
  clear N₁₇ N₁₈ N₁₉ F₁₂ hne14
  obtain ⟨mA, mB⟩ := law_math (turn := turn) hc34 hcs hc01
  refine law_tail2 (s := s) hbd0 gb hd hh hgd hun F₁₃ N₂₀ d1' d2' d5 hny hsaid hback (by rw [List.length_map, namesL_length]) (by rw [List.length_map, List.length_map, namesL_length]) hc34 hcs hc01 mA mB ?_
  intro h' tk' m' F' e70
  exact ret h' tk' m' _ F' e70
end
end Mine

end
section
open PySem PySem.W PySem.Spec PySem.Calls PyProof.Rows
set_option Elab.async false
set_option maxRecDepth 100000
set_option maxHeartbeats 4000000
namespace Mine
theorem offW1 : True := by
  w_top off
  trivial
theorem fillW1 : PySem.Challenge.rw_rl0017_01 = PySem.Challenge.rw_rl0017_01 ∧ hd.heap_39 = hd.heap_39 := by
  k_fill
  exact ⟨rfl, rfl⟩
section
variable {prog : Program} {w : World} {A : Around} {s : Shared} {E : Value → Shared → Prop} {Q : Value → Shared → Prop}
theorem law_spec {l : Addr} {vs : List Value} {ns : List Int} (hl : s.heap.IsList l vs.toArray) (hi : IntsAre vs ns) (hns : ns.length ≤ 63) (g : Gd w s.heap) (h70 : s.heap.get? 70 = some (tabObj #[])) (hd : A.depth + 5 < recursionLimit) (hh : A.handled = none) (hgd : A.guards = some []) (hun : A.units + 100 < cLine)
    (ret : ∀ h' tk ps, Heap.ExtBut 70 s.heap h' → h'.get? 70 = some (tabObj ps) → Q (.bool true) { s with heap := h', toks := tk }) :
    wpR (model prog w) A (call (.ref 97) [.ref l]) Q E s := by
  refine' enterRCh (hid := [(70, tabObj #[])]) (binds := [(Str.ofString "script", .ref l)]) ?kh g ?ho ?hcd ?hr ?hb ?hki ?hnd ?hco ?hg ?hk ?_
  case kh =>
    intro p hp
    rw [List.mem_singleton.mp hp]; exact h70
  case ho => k_is
  case hcd => k_is
  case hr => omega
  case hb => exact rfl
  case hki => exact rfl
  case hnd => decide +kernel
  case hco => exact rfl
  case hg => exact rfl
  case hk => exact rfl
  intro L h₁ tk cells hlt F N Y
  obtain ⟨o1, o2, o3, o4, o5, o6, rfl, d1, d2, d3, d4, d5, d6⟩ := cells_six Y
  clear Y
  have h7L : @LT.lt Nat _ 70 L := hlt _ (.head _)
  replace N : News _ L h₁ [(L + 1 + 1 + 1 + 1 + 1 + 1, o1), (L + 1 + 1 + 1 + 1 + 1, o2), (L + 1 + 1 + 1 + 1, o3), (L + 1 + 1 + 1, o4), (L + 1 + 1, o5), (L + 1, o6), (70, tabObj #[])] := N
  have hb : Heap.ExtBut 70 s.heap (hideAll s.heap ([(70, tabObj #[])].map (·.1))) := fun b o hb e => hideAll_get _ e (by simpa using hb)
  have gb := g.extBut hb
  have hlB : (hideAll s.heap ([(70, tabObj #[])].map (·.1))).IsList l vs.toArray := by
    obtain ⟨o, ho, hc, r⟩ := hl
    refine ⟨o, hb l o (fun e => ?_) ho, hc, r⟩
    rw [e, h70] at ho
    cases ho; cases hc
  have hBs : ∀ b o, b ≠ 70 → s.heap.get? b = some o → (hideAll s.heap ([(70, tabObj #[])].map (·.1))).get? b = some o := hb
  generalize hideAll s.heap ([(70, tabObj #[])].map (·.1)) = B at hb gb F N hlB hBs
  have X := gb.X
  obtain ⟨lo, mn, mg, mb, T⟩ := gb.T
  refine wpR_execs_any ?_
  iterate 18 walk1
  rename Obj.data _ = Data.cell (some (Value.int _ _)) => dc
  (with_reducible rename Fr _ _ _ _ => F₁)
  (with_reducible rename News _ _ _ _ => N₁)
  obtain ⟨cN, hcN, hc34⟩ : ∃ cN : Nat, 3 + Int.fmod (Int.fdiv (ns.length : Int) 2) 2 = (cN : Int) ∧ (cN = 3 ∨ cN = 4) := by
    have h1 : Int.fmod (Int.fdiv (ns.length : Int) 2) 2 = ((ns.length / 2 % 2 : Nat) : Int) := by
      rw [Int.fdiv_eq_ediv_of_nonneg _ (by omega), Int.fmod_eq_emod_of_nonneg _ (by omega)]; omega
    refine ⟨3 + ns.length / 2 % 2, by rw [h1]; omega, by omega⟩
  rw [hcN] at dc
  refine wpR_execs_any ?_
  have hgc := (N₁ _ (.tail _ (.tail _ (.tail _ (.tail _ (.head _)))))).1
  have hgs := (N₁ _ (.tail _ (.tail _ (.tail _ (.tail _ (.tail _ (.head _))))))).1
  dsimp only at hgc hgs
  refine wpAny_Assign_ListComp_free (fun _ => true) (fun v y => ∃ (n : Int) (t : Tok), y = Value.int n t) (cl := [(Str.ofString "script", L + 1), (Str.ofString "count", L + 1 + 1)]) rfl rfl (by decide) rfl (by decide) rfl rfl rfl ?_
  iterate 10 walk1
  (with_reducible rename IsRange _ _ _ _ _ _ _ _ => hr)
  (with_reducible rename Fr _ _ _ _ => F₂)
  (with_reducible rename News _ _ _ _ => N₂)
  refine wpAny_pyIter_range hr (small_one (by omega) (by omega) (by omega) (by omega)) ?_
  have hsz : Builtin.Range.rangeSize 0 (2 * (cN : Int)) 1 = ((2 * cN : Nat) : Int) := by rw [rangeSize_one]; split <;> omega
  have hgc := (N₂ _ (.tail _ (.tail _ (.tail _ (.tail _ (.head _)))))).1
  have hgs := (N₂ _ (.tail _ (.tail _ (.tail _ (.tail _ (.tail _ (.head _))))))).1
  dsimp only at hgc hgs
  refine ⟨_, _, _, 2 * cN, _, _, _, rfl, (Walks.range (A := A.deeper _) hh _ 0 1 (2 * cN)).bound, by rw [sizeLine_eq]; omega, by show IsRangeIter _ _ _ _ _; rw [hsz]; simpa using Heap.get?_push_size _ rfl, ?_, ?_, (F₂.push _).ns, ?_, ?_⟩
  · intro b hb
    rw [List.mem_singleton.mp hb, Heap.size_push]; exact Nat.lt_succ_self _
  · intro hm
    exact absurd F₂.ns.lt ((List.mem_singleton.mp hm) ▸ Nat.lt_irrefl _)
  · constructor
    · rintro C i v s₃ m₃ E' hC hP hn₃ hm₃ hk₃ _
      exact wpAny_pure ⟨rfl, s₃.heap, s₃.toks, rfl, fun _ _ e => e⟩
    · rintro C j v s₃ m₃ E' hC ⟨hji, tj, rfl⟩ _ hn₃ hm₃ hk₃ _
      have Fc := comp_fr F₂ hC hn₃ hk₃
      have k3 := fun b o e => hk₃ b o (fun q => absurd (Heap.lt_size (F₂.keep b o e)) (by rw [List.mem_singleton.mp q]; exact Nat.lt_irrefl _)) (Heap.get?_push_of_some _ (F₂.keep b o e))
      have hcc : s₃.heap.IsCell (L + 1 + 1) (some (.int (cN : Int) _)) := ⟨_, hk₃ _ _ (fun q => absurd (Heap.lt_size hgc) (by rw [List.mem_singleton.mp q]; exact Nat.lt_irrefl _)) (Heap.get?_push_of_some _ hgc), dc⟩
      have hcs : s₃.heap.IsCell (L + 1) (some (.ref l)) := ⟨_, hk₃ _ _ (fun q => absurd (Heap.lt_size hgs) (by rw [List.mem_singleton.mp q]; exact Nat.lt_irrefl _)) (Heap.get?_push_of_some _ hgs), d6⟩
      refine wpAny_BinOp ?_
      iterate 19 walk1
      refine wpAny_newTuple ?_ (by show 8 ≤ _; decide)
      obtain ⟨y, ty, hy⟩ := menu8 (j := j) (by omega) 3 5 2 4 7 9 6 8 s₃.toks (s₃.toks + 1) (s₃.toks + 1 + 1) (s₃.toks + 1 + 1 + 1) (s₃.toks + 1 + 1 + 1 + 1) (s₃.toks + 1 + 1 + 1 + 1 + 1) (s₃.toks + 1 + 1 + 1 + 1 + 1 + 1) (s₃.toks + 1 + 1 + 1 + 1 + 1 + 1 + 1)
      generalize hit : [Value.int 3 s₃.toks, .int 5 (s₃.toks + 1), .int 2 (s₃.toks + 1 + 1), .int 4 (s₃.toks + 1 + 1 + 1), .int 7 (s₃.toks + 1 + 1 + 1 + 1), .int 9 (s₃.toks + 1 + 1 + 1 + 1 + 1), .int 6 (s₃.toks + 1 + 1 + 1 + 1 + 1 + 1), .int 8 (s₃.toks + 1 + 1 + 1 + 1 + 1 + 1 + 1)].toArray = its at hy ⊢
      have hsz8 : its.size = 8 := by rw [← hit]; rfl
      clear hit
      have Fc1 := Fc.push { cls := .type "tuple", data := .seq its }
      refine wpAny_Name (wpAny_loadName_local rfl rfl Fc1.ns hm₃ ?_) (by decide)
      rw [show (0 + (j : Int) * 1) = (j : Int) by omega] at hm₃ ⊢
      refine tail_any (T := "tuple") ⟨_, Heap.get?_push_size _ rfl, rfl⟩ slot_tuple_getitem.lookup (PyProof.Rows.getItem_tuple (items := its) ⟨_, Heap.get?_push_size _ rfl, rfl, _, rfl⟩ (by omega) (by omega) (by rw [hsz8]; exact seqIdx_nat (by omega)) hy ?_) (by with_unfolding_all rfl)
      iterate 5 walk1
      have cell_up : ∀ {c : Addr} {v : Option Value} {h : Heap} {o : Obj}, h.IsCell c v → (h.push o).IsCell c v := fun ⟨o, e, d⟩ => ⟨o, Heap.get?_push_of_some _ e, d⟩
      refine wpAny_Name (wpAny_loadName_cell rfl rfl rfl (cell_up hcs) ?_) (by decide)
      refine wpAny_Slice (evalPart_some_step (wpAny_Name (wpAny_loadName_local rfl rfl Fc1.ns hm₃ ?_) (by decide)))
      refine evalPart_some_step (wpAny_Constant_int ?_)
      refine evalPart_some_step (wpAny_BinOp (wpAny_Constant_int (wpAny_Name (wpAny_loadName_cell rfl rfl rfl (cell_up hcc) ?_) (by decide))))
      walk1
      refine slice_raw3 (items := vs.toArray) ((hlB.at fun o e => k3 l o e).push _) (.int _ _) (.int _ _) (.int _ _) (by simp; omega) (by rw [List.size_toArray, hi.length]; omega) ?_
      intro D h₄ k₄ hD
      walk1
      refine sum_any (by show A.handled = none; exact hh) (vs := (slicePick vs.toArray (some (j : Int)) (some 20) (some (2 * (cN : Int)))).toList) (by simpa using hD) (hi.pick _ _ _) ?_
      intro h₅ tk₅ t₅ sm k₅ _
      walk1
      exact ⟨⟨_, _, rfl⟩, h₅, _, rfl, fun b o e => k₅ b o (k₄ b o (Heap.get?_push_of_some _ e))⟩
  · intro D h₆ tk₆ ys vs' hD hlD hplD hlen6 hP6 hF6 hn6 hk6
    rw [List.filter_eq_self.mpr (fun _ _ => rfl)] at hF6
    obtain ⟨ms, hms, hmsl⟩ := ints_ex hF6
    obtain ⟨nD, hoD⟩ := id hplD
    obtain ⟨F₃, N₃, hne3⟩ := behind_assign F₂ N₂ rfl hD hn6 hoD hk6
    clear hk6 hF6 hP6 F₂ N₂ hD hlD hplD hn6
    refine wpR_execs_any ?_
    iterate 6 walk1
    refine wpAny_ListComp_free (fun _ => true) (fun _ y => ∃ (c : Nat) (t : Tok), (c = 48 ∨ c = 49) ∧ y = Value.str ⟨#[c]⟩ t) (cl := []) rfl (by decide) rfl (by decide) rfl ?_
    walk1
    have hlD : (Heap.IsList h₆ D ys) := ⟨_, hoD, rfl, nD, rfl⟩
    refine wpAny_pyIter_list hlD ?_
    have hDne : D ≠ h₆.objs.size := Nat.ne_of_lt (Heap.lt_size hoD)
    refine ⟨_, _, _, ys.size, _, _, rfl, Walks.list (A := A.deeper _) hh _ D hDne ys, ?_, ⟨⟨_, Heap.get?_push_size _ rfl, rfl, rfl⟩, hlD.push _⟩, ?_, ?_, ?_⟩
    · have := hms.length
      rw [Array.length_toList] at this
      rw [sizeLine_eq]; omega
    · intro b hb
      rw [Heap.size_push]
      rcases List.mem_cons.mp hb with rfl | hb
      · exact Nat.lt_succ_self _
      · rw [List.mem_singleton.mp hb]; exact Nat.lt_succ_of_lt (Heap.lt_size hoD)
    · constructor
      · rintro C i v s₃ m₃ E' hC hP hn₃ hm₃ hk₃ _
        exact wpAny_pure ⟨rfl, s₃.heap, s₃.toks, rfl, fun _ _ e => e⟩
      · rintro C j v s₃ m₃ E' hC hj _ hn₃ hm₃ hk₃ _
        obtain ⟨x, tx, rfl, _⟩ := IntsAre.at hms j v (by simpa using hj)
        refine Subscript_ ?_
        refine Calls.Constant_str (wpAny_BinOp (wpAny_Name (wpAny_loadName_local rfl rfl hn₃ hm₃ (wpAny_Constant_int ?_)) (by decide)))
        walk1
        have h01 : x.fmod 2 = 0 ∨ x.fmod 2 = 1 := by
          have h1 := Int.fmod_nonneg_of_pos x (show (0 : Int) < 2 by decide)
          have h2 := Int.fmod_lt_of_pos x (show (0 : Int) < 2 by decide)
          omega
        rcases h01 with h01 | h01
        · rw [h01]
          refine tail_any (typeIs_str _ _ _) F.slot_str_getitem.lookup (P.getItem_str (c := 48) rfl (by decide +kernel) ?_) (by with_unfolding_all rfl)
          exact ⟨⟨48, _, .inl rfl, rfl⟩, s₃.heap, _, rfl, fun _ _ e => e⟩
        · rw [h01]
          refine tail_any (typeIs_str _ _ _) F.slot_str_getitem.lookup (P.getItem_str (c := 49) rfl (by decide +kernel) ?_) (by with_unfolding_all rfl)
          exact ⟨⟨49, _, .inr rfl, rfl⟩, s₃.heap, _, rfl, fun _ _ e => e⟩
    · intro D2 h₇ tk₇ ds vs2 hD2 hlD2 hplD2 hlen7 hP7 hF7 hk7
      rw [List.filter_eq_self.mpr (fun _ _ => rfl)] at hF7
      obtain ⟨cs, hcs, hcsl, hc01⟩ := signs_ex hF7
      have hcs6 : cs.length = 2 * cN := by
        have e1 := hms.length
        rw [Array.length_toList] at e1
        omega
      have k7 : ∀ b o, h₆.get? b = some o → h₇.get? b = some o := fun b o e => by
        by_cases hbI : b = h₆.objs.size
        · exact absurd (Heap.lt_size e) (hbI ▸ Nat.lt_irrefl _)
        · exact hk7 b o (by simpa using hbI) (Heap.get?_push_of_some _ e)
      have F₄ := fr_kept F₃ k7
      have N₄ := news_kept N₃ k7
      clear F₃ N₃ hk7 k7 hF7 hP7
      walk1
      refine join_listW hlD2 (rows_strs hcs) (by decide) ?_ ?_
      · rw [List.map_map, List.length_map]
        have e1 : (List.map ((fun (x : Str) => x.length) ∘ fun (c : Nat) => (⟨#[c]⟩ : Str)) cs) = cs.map fun _ => 1 := rfl
        rw [e1, List.map_const', List.sum_replicate_nat]
        omega
      intro tf tkf
      rw [join_signs]
      walk1
      refine wpR_execs_any ?_
      iterate 19 walk1
      (with_reducible rename Fr _ _ _ _ => F₅)
      (with_reducible rename News _ _ _ _ => N₅)
      (with_reducible rename IntsAre _ (List.take _ _) => hI20)
      refine sum_any (by show A.handled = none; exact hh) ⟨_, (N₅ _ (.head _)).1, rfl, _, rfl⟩ hI20 ?_
      intro h₈ tk₈ t₈ sm k₈ _
      have F₆ := fr_kept F₅ k₈
      have N₆ := news_kept N₅ k₈
      clear F₅ N₅
      iterate 8 walk1
      refine ⟨X.keeps F₆.keep, ?_⟩
      refine names_spec (by omega) (gb.keeps F₆.keep) (by show A.depth + 1 < _; omega) hh ?_
      intro nl h₉ tk₉ ny k₉ hnpl hny hnn
      obtain ⟨nn, hnl⟩ := id hnpl
      obtain ⟨F₇, N₇, hne7⟩ := behind_call F₆ N₆ k₉ hnn hnl
      clear F₆ N₆ k₉ hnn hnl
      iterate 2 walk1
      (with_reducible rename Fr _ _ _ _ => F₈)
      (with_reducible rename News _ _ _ _ => N₈)
      refine unpackItems_tuple (items := #[Value.int (1 + sm) _, .ref nl]) hh ⟨_, (N₈ _ (.head _)).1, rfl, _, rfl⟩ ?_
      intro h₁₀ he10
      have k10 := fun b o e => he10 b o (Nat.ne_of_lt (Heap.lt_size e)) e
      have F₉ := fr_kept F₈ k10
      have N₉ := news_kept N₈ k10
      clear F₈ N₈ k10
      iterate 7 walk1
      (with_reducible rename Fr _ _ _ _ => F₁₀)
      (with_reducible rename News _ _ _ _ => N₁₀)
      have hbd : bodyOf ((Mine.hd.heap_39 w.params).lookup 97) = _ := body_mk (by k_is) rfl
      refine law_tail (s := s) (turn := 1 + sm) (tt := tk₈) (tf := tf) (D := D) (nl := nl) (nn := nn) hbd gb h7L hd hh hgd hun (Eq.mp (congrArg (Fr B L _) ?_) F₁₀) (news_sub N₁₀ ?_) ?_ ?_ ?_ ?_ ?_ d1 d2 d3 d4 dc d6 hny hc34 hcs6 hc01 ?_
      rotate_left
      · intro p hp
        simp only [List.mem_cons, List.not_mem_nil, or_false] at hp ⊢
        rcases hp with h | h | h | h | h | h | h | h <;> rw [h] <;> simp
      rotate_right
      · refine map4 rfl rfl rfl rfl fun z e1 e2 e3 e4 => ?_
        simp only [if_neg e1, if_neg e2, if_neg e3, if_neg e4]
        rfl
      · exact fun e => hne7 (70, tabObj #[]) (by simp) e.symm
      · exact fun e => hne7 (L + 1 + 1 + 1 + 1 + 1 + 1, o1) (by simp) e.symm
      · exact fun e => hne7 (L + 1 + 1 + 1 + 1 + 1, o2) (by simp) e.symm
      · exact fun e => hne7 (L + 1 + 1 + 1 + 1, o3) (by simp) e.symm
      · exact fun e => hne7 (L + 1 + 1 + 1, o4) (by simp) e.symm
      · intro h' tk' m' ps' F' e70
        exact ret h' tk' ps' (fun b o hb' e => F'.keep b o (hb b o hb' e)) e70
end
end Mine

end
section
open PySem PySem.W PySem.Spec PySem.Calls PyProof.Rows
set_option Elab.async false
set_option maxRecDepth 100000
set_option maxHeartbeats 8000000
namespace Mine
theorem offZ0 : True := by
  w_top off
  trivial
theorem fillZ : PySem.Challenge.rw_rl0017_01 = PySem.Challenge.rw_rl0017_01 ∧ hd.heap_39 = hd.heap_39 := by
  k_fill
  exact ⟨rfl, rfl⟩
theorem final : PySem.Challenge.rw_rl0017_01.Holds := hd (by
  intro w s₀ s₁ mg mb G Y fa o pm cd doc dV kV ho hd hcd hD hmg hg args vals as hpre hlay hrd hwl hlo
  have KX := km_in_of Y
  have h70 := km_tabs_of Y 70 (List.mem_singleton.mpr rfl)
  refine Ground.open G ?_
  intro T B D TE TW
  have efa : mg (Str.ofString "law") = some (.ref 97) := mg_of KX T.g (by k_is)
  rw [show mg _ = _ from efa] at hmg
  injection hmg with hmg
  injection hmg with hmg
  subst hmg
  clear ho hd hcd hD
  wrow_args hpre hlay hrd hwl hlo
  have hT : TabsAt [(74, 70)] s₁.heap := fun q hq => by
    rw [List.mem_singleton.mp hq]
    exact ⟨codeHd_of_K KX (by kernel_rfl), h70⟩
  have g : Mine.Gd w s₁.heap := ⟨ghostOf s₁.heap [(74, 70)], ghost_K hT KX (by kernel_rfl), ⟨_, _, _, _, ghost_top hT T⟩, (ghost_code hT).1, hideAll_none _ (by simp), fun b o e => of_hideAll _ e⟩
  refine Mine.law_spec (by assumption) (by assumption) (by omega) g h70 (by decide) rfl rfl (by decide) ?_
  intro h' tk ps hk e70
  refine ⟨.inl ⟨_, .bool true, [], rfl, fun _ => rfl, .bool true, (by wrow_post), unshared_nil⟩, ⟨fun b o e => ?_, fun b o e => ?_⟩, rfl, .of_eq hg⟩
  · by_cases hb : b = 70
    · subst hb
      have e' : o = tabObj #[] := Option.some.inj (e.symm.trans h70)
      subst e'
      exact .inr (.inl ⟨((hT (74, 70) (.head _)).1.tab h70).isCodeTable, rfl, #[], ps, rfl, by rw [Array.empty_append]; exact e70⟩)
    · exact .inl (hk b o hb e)
  · by_cases hb : b = 70
    · subst hb; exact ⟨_, e70⟩
    · exact ⟨o, hk b o hb e⟩)
end Mine

end
theorem PySem.Challenge.cw_rl0017_01_holds : PySem.Challenge.rw_rl0017_01.Holds :=
  Mine.final
