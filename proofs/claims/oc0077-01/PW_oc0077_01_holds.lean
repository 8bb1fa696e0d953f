import PyProof.Rows.All
import Wide.All
import OpenK.AllK
import Wide.FinOn
import PySem.Challenge.RW_oc0077_01
set_option Elab.async false
set_option linter.all false
section
open PySem PySem.W PySem.W.X PySem.W.ZRun PyProof.Rows PySem.Calls PySem.Spec
set_option Elab.async false
namespace Mine
noncomputable abbrev Gam0 : _root_.PySem.Ctx := ⟨.builtin "claim.caller" {}, none, none, [], none⟩

theorem ends0 {prog : Program} {w : World} {t : Sem PySem.Fin} {s : Shared} {R : Result → Shared → Prop} (hreg : s.asleep)
    (h : Sem.wp (model prog w) Gam0 t (fun fin _ s' => ∃ f, fin = .done f ∧ (R (.ok f) s' ∧ leftWithCleanup s'.gens = false)) (fun e _ s' => R (.error e) s' ∧ leftWithCleanup s'.gens = false) default s) :
    ∃ n r s' s'', runN (denote table) prog w n s ⟨t, .builtin "claim.caller" {}, default, []⟩ = .halted (outcomeOf r) s' ∧
      schedN (denote table) prog w n (.single s ⟨t, .builtin "claim.caller" {}, default, []⟩) = .halted (outcomeOf r) s' ∧ s'.forget = s''.forget ∧ R r s'' := by
  obtain ⟨n, r, s₁, s₂, hs, hn, hfo, hR⟩ := wp_halts_full (M := model prog w) (R := R) hreg (Sem.wp_mono _ _ t (fun fin _ s' h' => by
    obtain ⟨f, rfl, hf⟩ := h'
    exact hf) (fun _ _ _ h' => h') default s h)
  exact ⟨n, r, s₂, s₁, hn, hs, hfo, hR⟩

noncomputable abbrev WalkC (q : Program) (loose : List Str) (XP : (Str → Option Value) → Heap → Prop) {α : Type} (Yf : Shared → α) (Ya : World → α) (r : RowW) (d : DefRec) (kwd : List (Str × Expr)) : Prop :=
  ∀ (w : World) (s₀ s₁ : Shared) (mg mb : Str → Option Value), Ground q loose r.records XP w s₀ mg mb s₁.heap → Yf s₀ = Ya w → ∀ (a : Addr) (o : Obj) (pm cd doc dV kV : Value), s₁.heap.get? a = some o →
    o.data = .func { docDef d.name d.params d.body d.scope pm cd doc with defaults := dV, kwdefaults := kV } → s₁.heap.CodeRec cd d.name → Dflts mg s₁.heap d.params kwd dV kV → mg d.name = some (.ref a) → s₁.gens = #[] →
    ∀ (args : List WData) (vals : List Value) (as : List Addr), Laid r.records w s₀ s₁ args vals as → r.claim.pre args = true → WData.layableAll args = true → ReadsAllW r.records (classAt s₀.heap) s₁.heap vals args as → WellAll w.params s₁.heap vals args → (∀ a ∈ as, (a == sysModules) = false) →
      ∀ p : Pos, Sem.wp (model r.prog w) Gam0 (call (.ref a) vals) (fun v _ s' => GoodWG r.claim (classAt s₀.heap) (ExcName.means s₀.heap) args s₁ (.ok (.ret v)) s')
        (fun e _ s' => GoodWG r.claim (classAt s₀.heap) (ExcName.means s₀.heap) args s₁ (.error e) s') p s₁

noncomputable def Dep (_ : Nonempty Unit) (P : Prop) : Prop := P
theorem depI {i : Nonempty Unit} {P : Prop} (h : P) : Dep i P := h
theorem PySem.W.holds_openX [i : Nonempty Unit] {r : OpenRow} {q : Program} {loose : List Str} {Xt : Shared → Bool} {XP : (Str → Option Value) → Heap → Prop} {α : Type} {Yf : Shared → α} {Ya : World → α} {d : DefRec} {kwd : List (Str × Expr)} {N : Nat}
    (left : LeftO r.prog q loose Xt Yf Ya N)
    (hX : ∀ s, Xt s = true → XP (s.heap.nsMap mainGlobals) s.heap) (hXk : ∀ mg h h', XP mg h → (∀ b o, h.get? b = some o → h'.get? b = some o) → XP mg h')
    (hdef : defOf q r.name = some (d, kwd)) (hp : r.prog.theDef r.name = some (d.params, d.body, d.scope)) (hk : kwWritten? d.params.kwonlyargs d.params.kw_defaults = some kwd) (hRf : ∀ s, Xt s = true → RecFacts r.records s.heap) (hwr : (!r.writes || r.records.isEmpty) = true)
    (k1 : r.wellSaid = true) (ok : (chainsOk q && opensWell r.prog && (frees r.toRowW && r.within.isEmpty)) = true) (hb : r.prog.bare) (hw : r.toRowW.promised)
    (walk : Dep i (WalkC q loose XP Yf Ya r.toRowW d kwd)) : r.Holds := by
  replace walk : WalkC q loose XP Yf Ya r.toRowW d kwd := walk
  refine ⟨k1, hw, ?_⟩
  simp only [Bool.and_eq_true] at ok
  obtain ⟨⟨hch, o1⟩, k5, k6⟩ := ok
  obtain ⟨hsame, hu, ha, hap, hm⟩ := frees_parts k5
  refine ⟨⟨hb, o1, by show r.makers.map _ = []; rw [hm]; rfl⟩, hw.witness, fun w => ⟨(left.behind hX hch w).1, fun s' hs' => ?_⟩⟩
  obtain ⟨s₀, hf, hg0, s, hT, hz, hgens, hg, G00, y⟩ := (left.behind (XP := fun mg h => XP mg h ∧ RecFacts r.records h) (fun s hs => ⟨hX s hs, hRf s hs⟩) hch w).2 s' hs'
  have G0 : Ground q loose [] XP w s (s.heap.nsMap mainGlobals) (s.heap.nsMap builtinsNs) s.heap := ⟨G00.T, G00.B, G00.D, G00.TE, G00.TD, G00.W, G00.X.1, G00.cls, G00.has, G00.apart, G00.once, G00.K⟩
  have RF := G00.X.2
  refine ⟨s₀, hf, hg0, s, hT, ?_, RF.1, RF.2.1, ?_⟩
  · intro n hn
    obtain rfl : n = r.name := by split at hn <;> simp_all
    exact pinned_of_view hg G0 hdef hp hk
  have hge : s.gens = #[] := Array.eq_empty_of_size_eq_zero (beq_iff_eq.mp hgens)
  have G : Ground q loose r.records XP w s _ _ s.heap := RF.ground G0
  intro args hpre hlay ord hord
  obtain ⟨⟨vs, s₁⟩, hlaid⟩ := Option.isSome_iff_exists.mp (layAllW_isSome (P := w.params) (ord := ord) G.has args r.args s (pre_splitW hpre).1)
  have keeps := layAllW_keeps _ _ _ hlaid
  have hal := layAllW_rest _ _ _ hlaid
  obtain ⟨as, hrd, hin, hold⟩ := reads_layAllW hord _ _ _ hlaid hlay s₁.heap (fun _ _ e => e)
  have L : Laid r.records w s s₁ args vs as := ⟨⟨ord, hord, hlaid⟩, hrd, hin, hold, keeps, hal.1.trans hge, hal.2.2.1⟩
  have G₁ := G.keeps hXk keeps
  obtain ⟨a, o, pm, cd, doc, dV, kV, h1, h2, h3, h4, h5⟩ := G₁.fn hdef
  have hi := ident_freeW hu ha hap
  have hwi : r.toRowW.claim.within = [] := List.isEmpty_iff.mp k6
  have hgo := walk w s s₁ _ _ G₁ y a o pm cd doc dV kV h2 h3 h4 h5 (defOf_name hdef ▸ h1) L.gens args vs as L hpre hlay L.reads L.well (L.low G.low) default
  obtain ⟨k, res, s2, s3, hrun, hsched, hfo, hcase, hos, hkp⟩ := ends0 (prog := r.prog) (w := w) (s := s₁)
    (t := do match ← nsGet mainNs r.name with
      | some f => do ret (← PySem.call f vs)
      | none => unsupported "claim.caller:no-such-global")
    (R := fun res s' => r.toRowW.claim.Ends s args vs s₁ res s' ∧ s'.os = s.os ∧ (r.writes = true → namesKept r.prog r.keeps s.heap s'.heap ∧ ∀ x ∈ r.records, ∀ a, classAt s.heap x.1 = some a → recordClass s'.heap a x.1 (x.2.map (·.1)) = true))
    (Shared.asleep_of_life hal.2.2.2 hz) (by
      rw [Sem.wp_bind']
      refine (Sem.wp_nsGet _ _ _ _ _ (a := mainGlobals) G₁.T.g _ _).mpr ?_
      rw [h1]
      dsimp only
      rw [Sem.wp_bind']
      refine Sem.wp_mono _ _ _ (fun v _ s' g => ?_) (fun e _ s' g => ?_) _ _ hgo
      · have z := g.laid (c := r.toRowW.claim) hsame hwi hi L
        exact ⟨_, rfl, ⟨z.1, z.2.1, fun q => ⟨namesKept_of hT hg r.keeps keeps g.2.1.old, noTable hwr q⟩⟩, leftWithCleanup_false_of_bare z.2.2⟩
      · have z := g.laid (c := r.toRowW.claim) hsame hwi hi L
        exact ⟨⟨z.1, z.2.1, fun q => ⟨namesKept_of hT hg r.keeps keeps g.2.1.old, noTable hwr q⟩⟩, leftWithCleanup_false_of_bare z.2.2⟩)
  obtain ⟨eh, _, _, eo, _⟩ := Shared.forget_eq hfo
  have hcase := hcase.congr eh
  rw [← eh] at hkp
  rw [← eo] at hos
  have hlife : s2.heap.life = s.heap.life := (runN_life _ _ _ hrun).trans hal.2.2.2
  refine ⟨vs, s₁, hlaid, k, _, s2, hsched, ?_, (fun _ i x hx => by rw [hge] at hx; simp at hx), hkp, by rw [hlife], Shared.rest_eq hos⟩
  rcases hcase with ⟨v, rfl, d1, d2, d3, d4, d5⟩ | ⟨e, ob, cls, rfl, d1, d2, d3, d4, d5⟩
  · exact .inl ⟨v, rfl, d1, d2, d3, fun b o y _ => d4 b o y, d5⟩
  · exact .inr ⟨e, ob, cls, rfl, d1, d2, d3, d4, fun b o y _ => d5 b o y⟩
end Mine
end
section
open PySem PySem.W PySem.W.X PySem.W.ZRun PyProof.Rows
set_option Elab.async false
namespace Mine
set_option maxRecDepth 100000 in
set_option maxHeartbeats 0 in
noncomputable def main : { Φ : Prop // Φ → PySem.Challenge.rw_oc0077_01.Holds } := ⟨_, fun h => by
  letI i : Nonempty Unit := ⟨(fun _ => ()) h⟩
  w_on; o_law; z_head; (case hw => w_witness2)
  exact depI h⟩
end Mine
end
section
open PySem PySem.W PySem.W.X PyProof.Rows
set_option Elab.async false
set_option maxRecDepth 100000
namespace Mine
noncomputable def G (M : Model) (Γ : PySem.Ctx) {α : Type} (t : Sem α) (Q : α → Shared → Prop) (E : Value → Shared → Prop) (s : Shared) : Prop :=
  ∀ p, Sem.wp M Γ t (fun a _ s' => Q a s') (fun e _ s' => E e s') p s
noncomputable def Gc (M : Model) (Γ : PySem.Ctx) (R : Result → Shared → Prop) (s : Shared) : Prop := ∀ p, wpCode M Γ R p s
noncomputable def okc : Code → Bool
  | .builtin id _ => !(Builtin.Bytes.decodersThatHold.contains id) && !(guardIds.contains id)
  | _ => true
structure Cln (Γ : PySem.Ctx) : Prop where
  code : okc Γ.code = true
  below : ∀ x ∈ Γ.below, okc x.1 = true
section
variable {α β : Type} {M : Model} {Γ : PySem.Ctx} {A : Around} {E : Value → Shared → Prop} {s : Shared}
theorem G.of_any {t : Sem α} {Q : α → Shared → Prop} (hΓ : Γ.In A) (h : wpAny M A t Q E s) : G M Γ t Q E s := fun p => h Γ p hΓ
theorem G.mono {t : Sem α} {Q Q' : α → Shared → Prop} {E' : Value → Shared → Prop} (h : G M Γ t Q E s) (hQ : ∀ a s, Q a s → Q' a s) (hE : ∀ e s, E e s → E' e s) : G M Γ t Q' E' s :=
  fun p => Sem.wp_mono M Γ t (fun a _ s => hQ a s) (fun e _ s => hE e s) p s (h p)
theorem G.bind {m : Sem α} {f : α → Sem β} {Q : β → Shared → Prop} (h : G M Γ m (fun a s' => G M Γ (f a) Q E s') E s) : G M Γ (m >>= f) Q E s := fun p => by
  rw [Sem.wp_bind']
  exact Sem.wp_mono M Γ m (fun a p' s' h' => h' p') (fun _ _ _ h' => h') p s (h p)
theorem G.bindA {m : Sem α} {f : α → Sem β} {Q : β → Shared → Prop} (hΓ : Γ.In A) (h : wpAny M A m (fun a s' => G M Γ (f a) Q E s') E s) : G M Γ (m >>= f) Q E s := G.bind (G.of_any hΓ h)
theorem G.pure {a : α} {Q : α → Shared → Prop} (h : Q a s) : G M Γ (Pure.pure a) Q E s := fun _ => h
theorem G.holding {vs : List Value} {m : Sem α} {Q : α → Shared → Prop} (h : G M Γ m Q E s) : G M Γ (holding vs m) Q E s := fun p => by rw [Sem.wp_holding]; exact h p
theorem G.keep {vs : List Value} {m : Sem α} {Q : α → Shared → Prop} (h : G M Γ m Q E s) : G M Γ (m.keep vs) Q E s := fun p => by rw [Sem.wp_keep]; exact h p
theorem G.onRaise {m : Sem α} {k : Value → Sem Unit} {Q : α → Shared → Prop} (h : G M Γ m Q (fun e s' => G M Γ (k e) (fun _ s'' => E e s'') E s') s) : G M Γ (m.onRaise k) Q E s := fun p => by
  rw [Sem.wp_onRaise]
  exact Sem.wp_mono M Γ m (fun _ _ _ h' => h') (fun e p' s' h' => h' p') p s (h p)
theorem G.iteF {c : Prop} [Decidable c] {a b : Sem α} {Q : α → Shared → Prop} (hc : ¬ c) (h : G M Γ b Q E s) : G M Γ (if c then a else b) Q E s := by rw [if_neg hc]; exact h
theorem G.runValue {c : Code} {Q : Value → Shared → Prop} (h : ∀ p, Gc M (Γ.enter c none p) (fun r s' => match r with | .ok (.ret v) => Q v s' | .ok _ => False | .error e => E e s') s) : G M Γ (runValue c) Q E s := fun p => by
  rw [Sem.wp_runValue]; exact h p p
theorem G.call {f : Value} {pos : List Value} {kw : List (Str × Value)} {Q : Value → Shared → Prop}
    (h : ∀ p, Gc M (Γ.enter (.call f ⟨pos, kw⟩) none p) (fun r s' => match r with | .ok (.ret v) => Q v s' | .ok _ => False | .error e => E e s') s) : G M Γ (call f pos kw) Q E s := G.runValue h
theorem Gc.tree {R : Result → Shared → Prop} (h : G M Γ (M.den Γ.code) (fun fin s' => match fin with | .done f => R (.ok f) s' | .again c' => c'.quiet = true ∧ Gc M (Γ.goto c') R s') (fun e s' => R (.error e) s') s) : Gc M Γ R s := fun p => by
  rw [wpCode_iff_wp]
  refine Sem.wp_mono M Γ _ (fun fin p' s' h' => ?_) (fun _ _ _ h' => h') p s (h p)
  cases fin with
  | done f => exact h'
  | again c' => exact ⟨h'.1, h'.2 p'⟩
theorem Cln.enter {c : Code} {hd : Option Value} {p : Pos} (x : Cln Γ) (h : okc c = true) : Cln (Γ.enter c hd p) :=
  ⟨h, fun y hy => by rcases List.mem_cons.mp hy with rfl | hy; exact x.code; exact x.below y hy⟩
theorem Cln.goto {c : Code} (x : Cln Γ) (h : okc c = true) : Cln (Γ.goto c) := ⟨h, x.below⟩
end
end Mine
end
section
open PySem PySem.W PySem.W.X PyProof.Rows
set_option Elab.async false
set_option maxRecDepth 100000
namespace Mine
theorem any_false_of {α : Type} {f : α → Bool} : ∀ {l : List α}, (∀ x ∈ l, f x = false) → l.any f = false
  | [], _ => rfl
  | x :: l, h => by rw [List.any_cons, h x (.head _), any_false_of fun y hy => h y (.tail _ hy)]; rfl
theorem G.exported {M : Model} {Γ : PySem.Ctx} {E : Value → Shared → Prop} {s : Shared} {v : Value} {Q : Bool → Shared → Prop} (x : Cln Γ) (h : Q false s) : G M Γ (Builtin.Bytes.exported v) Q E s := fun p => by
  unfold Builtin.Bytes.exported
  rw [Sem.wp_bind']
  have key : ∀ b : Bool, b = false → Q b s := fun b e => e ▸ h
  refine key _ ?_
  refine any_false_of fun y hy => ?_
  obtain ⟨c, q⟩ := y
  have hk : okc c = true := by
    rcases List.mem_cons.mp hy with e | hy
    · cases e; exact x.code
    · exact x.below _ hy
  cases c with
  | builtin id ar =>
    obtain ⟨h1, h2⟩ := (Bool.and_eq_true _ _).mp hk
    replace h1 := (Bool.not_eq_true' _).mp h1
    replace h2 := (Bool.not_eq_true' _).mp h2
    have e1 : id ≠ "bytearray.__contains__" := fun e => by rw [e] at h2; exact absurd h2 (by decide +kernel)
    have e2 : id ≠ "bytearray.__mod__" := fun e => by rw [e] at h2; exact absurd h2 (by decide +kernel)
    have e3 : id ≠ "bytearray.__rmod__" := fun e => by rw [e] at h2; exact absurd h2 (by decide +kernel)
    have e4 : id ≠ "_struct.pack_into.held" := fun e => by rw [e] at h2; exact absurd h2 (by decide +kernel)
    have e5 : id ≠ "bytearray.find.held" := fun e => by rw [e] at h2; exact absurd h2 (by decide +kernel)
    obtain ⟨args, kw⟩ := ar
    delta Builtin.Bytes.exported.match_1
    refine (dif_neg e1).trans ?_
    refine (dif_neg e2).trans ?_
    refine (dif_neg e3).trans ?_
    refine (dif_neg e4).trans ?_
    refine (dif_neg e5).trans ?_
    cases args with
    | nil => rfl
    | cons a r =>
      show (Builtin.Bytes.sameRef a v && Builtin.Bytes.decodersThatHold.contains id) = false
      rw [h1, Bool.and_false]
  | _ => rfl
end Mine
end
section
open PySem PySem.W PySem.W.X PyProof.Rows
set_option Elab.async false
set_option maxRecDepth 100000
namespace Mine
theorem ba_rel : typeLookup (.type "bytearray") "__release_buffer__" = pure (some (.builtin "bytearray.__release_buffer__")) := by rw [typeLookup_type, builtinLookup_eq_fast]; kernel_rfl
theorem ba_sub : isSubtype (.type "bytearray") (.type "bytearray") = pure true := by rw [isSubtype_type]; kernel_rfl
theorem ba_idx : typeLookup (.type "int") "__index__" = pure (some (.builtin "int.__index__")) := by rw [typeLookup_type, builtinLookup_eq_fast]; kernel_rfl
theorem ba_bind (v : Value) : Builtin.Bytes.bindOptional "bytearray.__init__" "bytearray" ["source", "encoding", "errors"] [v] [] = pure [some v, none, none] := by kernel_rfl
theorem ba_own {M : Model} {A : Around} {E : Value → Shared → Prop} {s : Shared} {a : Addr} {o : Obj} {Q : Bool → Shared → Prop} (ho : s.heap.get? a = some o) (hc : o.cls = .type "bytearray") (h : Q false s) :
    wpAny M A (Builtin.Bytes.ownRelease (.ref a)) Q E s := by
  have hT : s.TypeIs (.ref a) "bytearray" := ⟨o, ho, hc⟩
  have e1 := ba_rel
  have e2 := ba_sub
  unfold Builtin.Bytes.ownRelease Builtin.Bytes.slotIsOwn
  refine wpAny_bind (wpAny_bind (wpAny_specialOf hT e1 ?_))
  dsimp only
  have e3 : (!"bytearray.__release_buffer__".endsWith ("." ++ "__release_buffer__")) = false := by decide +kernel
  rw [if_neg (by rw [e3]; decide)]
  have e4 : "bytearray.__release_buffer__".dropRight ("__release_buffer__".length + 1) = "bytearray" := by decide +kernel
  rw [e4]
  exact wpAny_isInstance hT e2 (wpAny_pure h)
theorem ba_write {M : Model} {A : Around} {E : Value → Shared → Prop} {s : Shared} {a : Addr} {b : Array UInt8} {f : Array UInt8 → Array UInt8} {Q : Unit → Shared → Prop} (ho : s.heap.get? a = some ⟨.type "bytearray", none, .bytearray b 0, #[]⟩)
    (hz : (f b).size ≤ sizeLine) (h : ∀ h', h'.get? a = some ⟨.type "bytearray", none, .bytearray (f b) 0, #[]⟩ → Heap.SameBut a s.heap h' → Q () { s with heap := h' }) :
    wpAny M A (Builtin.Bytes.write (.ref a) f) Q E s := by
  show wpAny M A (updateBytearray a f) Q E s
  unfold updateBytearray
  refine wpAny_bind (wpAny_load ho ?_)
  dsimp only
  have g : (s.heap.update a (Obj.mapBytearray f)).get? a = some ⟨.type "bytearray", none, .bytearray (f b) 0, #[]⟩ := Heap.get?_update_self _ ho rfl
  refine wpAny_bind (wpAny_update ho ?_)
  refine wpAny_lookBehind g ?_ (h _ g (Heap.SameBut.update ..))
  exact if_neg (Nat.not_lt.mpr hz)
theorem ba_init {prog : Program} {w : World} {Γ : PySem.Ctx} {A : Around} {E : Value → Shared → Prop} {s : Shared} {a : Addr} {n : Int} {t : Tok} {Q : PySem.Fin → Shared → Prop} (hΓ : Γ.In A) (x : Cln Γ) (ho : s.heap.get? a = some ⟨.type "bytearray", none, .bytearray #[] 0, #[]⟩) (h0 : 0 ≤ n) (h1 : n ≤ 1000)
    (h : ∀ h', h'.get? a = some ⟨.type "bytearray", none, .bytearray (Array.replicate n.toNat 0) 0, #[]⟩ → Heap.SameBut a s.heap h' → Q (.done (.ret .none)) { s with heap := h' }) :
    G (model prog w) Γ (Builtin.«bytearray.__init__» ⟨[.ref a, .int n t], []⟩) Q E s := by
  unfold Builtin.«bytearray.__init__»
  dsimp only
  refine G.bindA hΓ (ba_own ho rfl ?_)
  refine G.iteF (by decide) ?_
  refine G.bindA hΓ (wpAny_of_eq (ba_bind _) ?_)
  dsimp only
  refine G.bindA hΓ (wpAny_pure ?_)
  refine G.bindA hΓ (wpAny_pure ?_)
  refine G.bind (G.bind (G.exported x ?_))
  refine G.bindA hΓ (m := Builtin.Bytes.exportsOf (.ref a)) (wpAny_bind (wpAny_load ho (wpAny_pure ?_)))
  refine G.pure ?_
  refine G.iteF (by decide) ?_
  refine G.of_any hΓ ?_
  refine wpAny_bind (ba_write ho (by simp) fun h₁ g₁ k₁ => ?_)
  refine wpAny_bind (wpAny_pure ?_)
  rw [if_neg (by decide)]
  dsimp only [Option.isSome_none]
  refine wpAny_bind ?_
  rw [if_neg (by decide), if_neg (by decide)]
  refine wpAny_pure ?_
  refine wpAny_bind (wpAny_specialOf_val (T := "int") rfl ba_idx ?_)
  rw [if_pos (by rfl)]
  refine wpAny_bind (wpAny_attempt (wpAny_bind (wpAny_pure (wpAny_pure ?_))))
  dsimp only
  have f1 : Builtin.Bytes.fitsIndex n = true := by simp only [Builtin.Bytes.fitsIndex, Bool.and_eq_true, decide_eq_true_eq]; lia
  rw [if_neg (by rw [f1]; decide), if_neg (by lia), if_neg (by simp only [beq_iff_eq]; lia)]
  have f2 : Builtin.Bytes.tooLong n.toNat = false := by
    have : n.toNat ≤ 1000 := by lia
    have e : sizeLine = 16777216 := rfl
    simp only [Builtin.Bytes.tooLong, decide_eq_false_iff_not, e, gt_iff_lt, Nat.not_lt]; lia
  rw [if_neg (by rw [f2]; decide)]
  refine wpAny_bind (wpAny_rule ?_)
  by_cases hn : n > 0
  · rw [if_pos hn]
    refine wpAny_bind (ba_write g₁ (by simp [sizeLine]; lia) fun h₂ g₂ k₂ => ?_)
    refine wpAny_bind (wpAny_pure (wpAny_pure (h h₂ g₂ (k₁.trans k₂))))
  · rw [if_neg hn]
    have : n = 0 := by lia
    subst this
    refine wpAny_bind (wpAny_pure (wpAny_pure (h h₁ g₁ k₁)))
theorem ba_slotI : Slot "bytearray" "__init__" "bytearray.__init__" :=
  .of (owner := "bytearray") (n := "__init__") (by rw [typeLookup_type, builtinLookup_eq_fast]; kernel_rfl) (by decide +kernel) (by decide +kernel) (by decide +kernel) (.inl (by decide +kernel)) ba_sub
theorem ba_mro : mroOf (.type "bytearray") = pure [.type "bytearray", .type "object"] := by rw [mroOf_type]; kernel_rfl
theorem ba_made : Bind.madeBy (.type "bytearray") = pure (some "bytearray.__new__") :=
  madeBy_type ba_mro (by rw [typeLookup_type, builtinLookup_eq_fast]; kernel_rfl) (by decide +kernel)
theorem ba_entryI : entryFor table "bytearray.__init__" = some Builtin.«bytearray.__init__» := entryFor_of_tree (by kernel_rfl)
theorem ba_type (v : Value) : checkTypeCall "bytearray" ⟨[v], []⟩ = pure () := by kernel_rfl
theorem ba_argsI (a v : Value) : argsOk "bytearray.__init__" ⟨[a, v], []⟩ := by unfold argsOk; kernel_rfl
theorem ba_can : ((Manifest.find? "bytearray").bind (·.mro.findSome? fun t => (Manifest.find? t).bind fun b => if b.noNew then some true else if b.attrs.any (·.1 == "__new__") then some false else none)).getD false = false := by decide +kernel
end Mine
end
section
open PySem PySem.W PySem.W.X PySem.W.XRun PyProof.Rows
set_option Elab.async false
set_option maxRecDepth 100000
namespace Mine
noncomputable abbrev AM : Around := ⟨none, 600, none, none, 2000⟩
structure AOk (A : Around) : Prop where
  handled : A.handled = none
  depth : A.depth ≤ 500
  units : A.units ≤ 1500
theorem any_weak {α : Type} {M : Model} {A : Around} {t : Sem α} {Q : α → Shared → Prop} {E : Value → Shared → Prop} {s : Shared} (ok : AOk A) (h : wpAny M AM t Q E s) : wpAny M A t Q E s :=
  fun Γ p hΓ => h Γ p ⟨hΓ.1.trans ok.handled, Nat.le_trans hΓ.2.1 (Nat.le_trans ok.depth (by decide)), fun _ e => (by cases e), fun _ e => (by cases e), Nat.le_trans hΓ.2.2.2.2 (Nat.le_trans ok.units (by decide))⟩
noncomputable def Ret (Q : Value → Shared → Prop) (s : Shared) (R : Value → Heap → Prop) : Prop := ∀ v h' tk, R v h' → Q v ⟨h', s.gens, s.drawn, tk, s.os⟩
theorem Ret.use {Q : Value → Shared → Prop} {s : Shared} {R : Value → Heap → Prop} {v : Value} {h' : Heap} {tk : Nat} (k : Ret Q s R) (r : R v h') : Q v ⟨h', s.gens, s.drawn, tk, s.os⟩ := k v h' tk r
noncomputable abbrev Kp (h h' : Heap) : Prop := ∀ b o, h.get? b = some o → h'.get? b = some o
theorem mem_kp {h h' : Heap} {news : List (Addr × Obj)} (D : Mem h h' [] news) : Kp h h' := fun b o e => D.keep b o e (by simp [away])
noncomputable abbrev baObj (b : Array UInt8) : Obj := ⟨.type "bytearray", none, .bytearray b 0, #[]⟩
noncomputable def RetX (Q : Value → Shared → Prop) (s : Shared) (R : Value → Heap → List (Addr × Obj) → Prop) : Prop := ∀ v h' tk ns, Mem s.heap h' [] ns → R v h' ns → Q v ⟨h', s.gens, s.drawn, tk, s.os⟩
theorem RetX.use {Q : Value → Shared → Prop} {s : Shared} {R : Value → Heap → List (Addr × Obj) → Prop} {v : Value} {h' : Heap} {tk : Nat} {ns : List (Addr × Obj)} (k : RetX Q s R) (D : Mem s.heap h' [] ns) (r : R v h' ns) : Q v ⟨h', s.gens, s.drawn, tk, s.os⟩ := k v h' tk ns D r
noncomputable def fstA (l : List (Addr × Obj)) : Addr := (l.headD (0, ⟨.none, none, .plain, #[]⟩)).1
theorem ret1 {Q : Value → Shared → Prop} {s : Shared} {R : Value → Heap → Prop} {o : Obj} (hQ : Ret Q s R) (hR : ∀ a h', h'.get? a = some o → s.heap.get? a = none → Kp s.heap h' → R (.ref a) h') :
    RetX Q s fun v _ ns => (v, ns.map Prod.snd) = (.ref (fstA ns), [o]) := by
  intro v h' tk ns D e
  rcases ns with _ | ⟨⟨a, _⟩, _ | ⟨_, _⟩⟩ <;> cases e
  exact hQ _ _ _ (hR a h' (D.nw _ (.head _)).1 (D.nw _ (.head _)).2 (mem_kp D))
theorem ret2 {Q : Value → Shared → Prop} {s : Shared} {R : Value → Heap → Prop} (o : Addr → Obj) (p : Obj) (hQ : Ret Q s R) (hR : ∀ a b h', h'.get? a = some (o b) → s.heap.get? a = none → h'.get? b = some p → s.heap.get? b = none → Kp s.heap h' → R (.ref a) h') :
    RetX Q s fun v _ ns => (v, ns.map Prod.snd) = (.ref (fstA ns), [o (fstA ns.tail), p]) := by
  intro v h' tk ns D e
  obtain ⟨e1, e2⟩ := Prod.mk.inj e
  rcases ns with _ | ⟨⟨a, _⟩, _ | ⟨⟨b, _⟩, _ | ⟨_, _⟩⟩⟩
  · exact nomatch (congrArg List.length e2 : 0 = 2)
  · exact nomatch (congrArg List.length e2 : 1 = 2)
  · injection e2 with e2 e3; injection e3 with e3 e4
    have e2 : _ = o b := e2
    subst e1; subst e2; subst e3
    exact hQ _ _ _ (hR a b h' (D.nw _ (.head _)).1 (D.nw _ (.head _)).2 (D.nw _ (.tail _ (.head _))).1 (D.nw _ (.tail _ (.head _))).2 (mem_kp D))
  · injection e2 with e2 e3; injection e3 with e3 e4; cases e4
theorem ret0 {Q : Value → Shared → Prop} {s : Shared} {R : Value → Heap → Prop} {v0 : Value} (hQ : Ret Q s R) (hR : R v0 s.heap) :
    RetX Q s fun v h' _ => (v, h') = (v0, s.heap) := by
  intro v h' tk ns D e
  cases e; exact hQ _ _ _ hR
end Mine
end
local macro_rules | `(tactic| x_close) => `(tactic| exact Mine.RetX.use ‹_› ‹_› rfl)
section
open PySem PySem.W PySem.W.X PySem.W.XRun PyProof.Rows
set_option Elab.async false
set_option maxRecDepth 100000
namespace Mine
section

set_option maxHeartbeats 0 in
theorem ba_newM (prog : Program) (w : World) (s : Shared) (n : Int) (t : Tok) (Q : Value → Shared → Prop) (E : Value → Shared → Prop)
    (hQ : Ret Q s fun v h' => ∃ a, v = .ref a ∧ h'.get? a = some (baObj #[]) ∧ s.heap.get? a = none ∧ Kp s.heap h') :
    wpAny (model prog w) AM (call (.builtin "bytearray.__new__") [.type "bytearray", .int n t]) Q E s := by
  have hX := ret1 (o := baObj #[]) hQ fun a _ e n k => ⟨a, rfl, e, n, k⟩
  x_run
end
theorem in_goto {Γ : PySem.Ctx} {A : Around} (hΓ : Γ.In A) (c c' : Code) (p : Pos) : ((Γ.enter c none p).goto c').In (A.under c') :=
  ((hΓ.enter c none p (by intro x; cases x)).goto c').in
theorem in_enter {Γ : PySem.Ctx} {A : Around} (hΓ : Γ.In A) (c : Code) (p : Pos) : (Γ.enter c none p).In (A.under c) := (hΓ.enter c none p (by intro x; cases x)).in
theorem okcb {id : String} {ar : Args} (h : (!(Builtin.Bytes.decodersThatHold.contains id) && !(guardIds.contains id)) = true) : okc (.builtin id ar) = true := h
theorem AOk.in1 {A : Around} (h : AOk A) (hu : A.units ≤ 1499) : AOk A.in1 := ⟨h.handled, h.depth, by show A.units + 1 ≤ _; lia⟩
theorem Gc.entry {prog : Program} {w : World} {Γ : PySem.Ctx} {id : String} {ar : Args} {b : Builtin} {R : Result → Shared → Prop} {s : Shared} (hc : Γ.code = .builtin id ar) (hb : entryFor table id = some b)
    (h : G (model prog w) Γ (b ar) (fun fin s' => match fin with | .done f => R (.ok f) s' | .again c' => c'.quiet = true ∧ Gc (model prog w) (Γ.goto c') R s') (fun e s' => R (.error e) s') s) : Gc (model prog w) Γ R s := by
  refine Gc.tree ?_
  have e : (model prog w).den Γ.code = b ar := by
    rw [hc]
    show (match entryFor table id with | some b => b ar | none => unsupported ((withoutEnding? id "#data").getD id)) = _
    rw [hb]
  rw [e]; exact h
set_option maxHeartbeats 1000000 in
theorem G_bytearray {prog : Program} {w : World} {Γ : PySem.Ctx} {A : Around} {E : Value → Shared → Prop} {s : Shared} {n : Int} {t : Tok} {Q : Value → Shared → Prop} (hΓ : Γ.In A) (ok : AOk A) (hu : A.units ≤ 1400) (x : Cln Γ) (h0 : 0 ≤ n) (h1 : n ≤ 1000)
    (h : ∀ a h' tk, h'.get? a = some (baObj (Array.replicate n.toNat 0)) → s.heap.get? a = none → Kp s.heap h' → Q (.ref a) { s with heap := h', toks := tk }) :
    G (model prog w) Γ (call (.type "bytearray") [.int n t]) Q E s := by
  refine G.call fun p => Gc.tree ?_
  refine G.pure ⟨Code.quiet_builtin _ (by decide +kernel), Gc.entry rfl F.entry_type_call ?_⟩
  have hΓ2 := in_goto hΓ (.call (.type "bytearray") ⟨[.int n t], []⟩) (.builtin "type.__call__" ⟨[.type "bytearray", .int n t], []⟩) p
  rw [Around.under_plain (weight_type_call_type _ _ []) (units_type_call_type _ _ [])] at hΓ2
  have x2 : Cln ((Γ.enter (.call (.type "bytearray") ⟨[.int n t], []⟩) none p).goto (.builtin "type.__call__" ⟨[.type "bytearray", .int n t], []⟩)) := (x.enter rfl).goto (okcb (by decide +kernel))
  have ok2 := ok.in1 (by lia)
  generalize (Γ.enter (.call (.type "bytearray") ⟨[.int n t], []⟩) none p).goto (.builtin "type.__call__" ⟨[.type "bytearray", .int n t], []⟩) = Γ2 at hΓ2 x2 ⊢
  unfold Builtin.«type.__call__»
  dsimp only
  rw [if_neg (by decide)]
  rw [ba_can]
  rw [if_neg (by decide)]
  refine G.bindA hΓ2 (wpAny_of_eq (ba_type _) ?_)
  refine G.bindA hΓ2 (wpAny_of_eq ba_mro ?_)
  rw [if_neg (by decide)]
  refine G.bindA hΓ2 (wpAny_of_eq ba_made ?_)
  dsimp only
  refine G.bindA hΓ2 (wpAny_pure ?_)
  refine G.bindA hΓ2 (wpAny_holding (any_weak ok2 (ba_newM prog w s n t _ _ ?_)))
  rintro v h' tk ⟨a, rfl, g1, g2, k1⟩
  have hT : Shared.TypeIs ⟨h', s.gens, s.drawn, tk, s.os⟩ (.ref a) "bytearray" := ⟨_, g1, rfl⟩
  refine G.bindA hΓ2 (wpAny_isInstance hT ba_sub ?_)
  rw [if_neg (by decide)]
  refine G.bind (G.holding ?_)
  unfold callSpecial?
  refine G.bindA hΓ2 (wpAny_specialOf hT ba_slotI.lookup ?_)
  dsimp only
  refine G.holding ?_
  refine G.bindA hΓ2 (wpAny_of_eq (ba_slotI.bind _) ?_)
  dsimp only
  refine G.bind (G.call fun p2 => Gc.tree ?_)
  have hΓ3 := in_enter hΓ2 (.call (.builtin "bytearray.__init__") ⟨[.ref a, .int n t], []⟩) p2
  refine G.bindA hΓ3 (ba_slotI.check _ _ _ _ _ _ _ _ hT (ba_argsI _ _) ?_)
  refine G.pure ⟨Code.quiet_builtin _ (by decide +kernel), Gc.entry rfl ba_entryI ?_⟩
  refine ba_init (in_goto hΓ2 _ _ p2) ((x2.enter rfl).goto (okcb (by decide +kernel))) g1 h0 h1 fun h2 g3 k2 => ?_
  refine G.pure ?_
  refine G.iteF (by decide) ?_
  refine G.pure ?_
  refine h a h2 tk g3 g2 fun b o e => ?_
  exact (k2.2 b (fun z => by subst z; rw [e] at g2; cases g2)).trans (k1 b o e)
end Mine
end
section
open PySem PySem.W PySem.W.X PySem.W.XRun PyProof.Rows PySem.Calls
set_option Elab.async false
set_option maxRecDepth 100000
namespace Mine
theorem G.point {M : Model} {Γ : PySem.Ctx} {E : Value → Shared → Prop} {s : Shared} {Q : Unit → Shared → Prop} (h : Q () s) : G M Γ point Q E s := fun _ => h
theorem G.standAt {M : Model} {Γ : PySem.Ctx} {E : Value → Shared → Prop} {s : Shared} {q : Pos} {Q : Unit → Shared → Prop} (h : Q () s) : G M Γ (standAt q) Q E s := fun _ => h
theorem Gc_fun {prog : Program} {w : World} {Γ : PySem.Ctx} {A : Around} {R : Result → Shared → Prop} {s : Shared} {name : Str} {params : Arguments} {body : List Stmt} {scope : Scope}
    {pm cd doc : Value} {a : Addr} {o : Obj} {args : List Value} {binds : List (Str × Value)} (hc : Γ.code = .call (.ref a) ⟨args, []⟩) (hΓ : Γ.Below A)
    (hroom : A.depth < recursionLimit) (ho : s.heap.get? a = some o) (hdata : o.data = .func (docDef name params body scope pm cd doc)) (hlim : s.heap.NoLimit) (hcd : s.heap.CodeRec cd name)
    (hbind : bindArgs (docDef name params body scope pm cd doc) ⟨args, []⟩ = pure binds)
    (hloc : ∀ x ∈ binds, scope.names.lookup x.1 = some .local)
    (h : ∀ h₁, Fr s.heap s.heap.objs.size h₁ (fun x => binds.reverse.lookup x) →
      G (model prog w) (Γ.goto (.func body (envOf name scope s.heap.objs.size a cd))) (execs body (envOf name scope s.heap.objs.size a cd))
        (fun f s' => R (.ok (.ret (match f with | .ret v => v | _ => .none))) s') (fun _ _ => False) { s with heap := h₁, toks := s.toks + binds.length })
    (hco : scope.isCoroutine = false) (hgen : scope.isGenerator = false) (hk : scope.kind = .function)
    (hcell : ∀ x ∈ scope.names, x.2 ≠ .cell) : Gc (model prog w) Γ R s := by
  refine Gc.tree ?_
  rw [hc]
  have hin : Γ.In A.in1 := by
    have := hΓ.in
    rw [hc] at this
    exact this
  refine G.of_any hin ?_
  show wpAny _ A.in1 (callAny (.ref a) _) _ _ s
  simp only [callAny]
  refine wpAny_bind (wpAny_load ho ?_)
  obtain ⟨c, oc, vs, tq, hcc, hoc, hdc, hq⟩ := hcd
  subst hcc
  have e1 : (docDef name params body scope pm (.ref c) doc).scope.isCoroutine = false := hco
  have e2 : (docDef name params body scope pm (.ref c) doc).scope.isGenerator = false := hgen
  simp only [hdata, callFunction, e1, e2]
  refine wpAny_bind (m := field (.ref c) 1) (wpAny_field hoc hdc hq (wpAny_bind (wpAny_pure ?_)))
  refine wpAny_bind ?_
  rw [hbind]
  refine wpAny_pure ?_
  refine wpAny_bind (wpAny_newFunctionEnv hcell hloc (fun h₁ hns hsb => ?_) hk)
  refine wpAny_bind (wpAny_enterFrame (hlim.fresh _ hsb) hroom (wpAny_pure ⟨rfl, ?_⟩))
  show Gc _ (Γ.goto (.func body (envOf name scope s.heap.objs.size a (.ref c)))) _ _
  refine Gc.tree ?_
  show G _ _ (do point; match ← (execs body _).onRaise (leaving _) with | .ret v => ret v | _ => ret .none) _ _ _
  refine G.bind (G.point ?_)
  refine G.bind (G.onRaise (G.mono (h h₁ ⟨hns, fun b o e => hsb.extBut b o (Nat.ne_of_lt (Heap.lt_size e)) (Heap.get?_push_of_some _ e), Nat.le_refl _⟩) (fun f s' hf => ?_) (fun _ _ e => e.elim)))
  cases f <;> exact G.pure hf
end Mine
end
section
open PySem PySem.W PySem.W.X PySem.W.XRun PyProof.Rows PySem.Calls
set_option Elab.async false
set_option maxRecDepth 100000
namespace Mine
noncomputable abbrev K : Params → Frag := main.heap_149
noncomputable abbrev tabs : List Addr := [23, 93, 100]
noncomputable def Bas (P : Params) (h : Heap) : Prop := ∀ a o, (K P).lookup a = some o → a ∉ tabs → h.get? a = some o
theorem Bas.keeps {P : Params} {h h' : Heap} (B : Bas P h) (k : Kp h h') : Bas P h' := fun a o e n => k _ _ (B a o e n)
theorem Bas.keepsBut {P : Params} {h h' : Heap} (B : Bas P h) (k : ∀ b o, h.get? b = some o → b ∉ tabs → h'.get? b = some o) : Bas P h' := fun a o e n => k _ _ (B a o e n) n
noncomputable abbrev prog : Program := PySem.Challenge.rw_oc0077_01.row.prog
noncomputable def gO (P : Params) : Obj := ((K P).lookup 3).getD default
noncomputable def gEs (P : Params) : Array DictEntry := match (gO P).data with | .dict es _ => es | _ => #[]
noncomputable def bO (P : Params) : Obj := ((K P).lookup 0).getD default
noncomputable def bEs (P : Params) : Array DictEntry := match (bO P).data with | .dict es _ => es | _ => #[]
noncomputable def mg (P : Params) : Str → Option Value := fun x => nsFind (gEs P) x
noncomputable def mb (P : Params) : Str → Option Value := fun x => nsFind (bEs P) x
theorem strKeys_of {es : Array DictEntry} (h : (es.toList.all fun e => match e.key with | .str .. => true | _ => false) = true) : StrKeys es := fun e he => by
  have := List.all_eq_true.mp h e (Array.mem_toList_iff.mpr he)
  cases q : e.key <;> rw [q] at this <;> first | exact ⟨_, _, rfl⟩ | cases this
noncomputable def epOf (o : Obj) : Nat := match o.data with | .dict _ n => n | _ => 0
theorem Bas.g {P : Params} {h : Heap} (B : Bas P h) : h.Ns mainGlobals (mg P) :=
  ⟨gO P, gEs P, epOf (gO P), B 3 _ (by kernel_rfl) (by decide), by kernel_rfl, strKeys_of (by kernel_rfl), fun _ => rfl⟩
theorem Bas.b {P : Params} {h : Heap} (B : Bas P h) : h.Ns builtinsNs (mb P) :=
  ⟨bO P, bEs P, epOf (bO P), B 0 _ (by kernel_rfl) (by decide), by kernel_rfl, strKeys_of (by kernel_rfl), fun _ => rfl⟩
theorem Bas.lim {P : Params} {h : Heap} (B : Bas P h) : h.NoLimit :=
  ⟨fun _ => none, ⟨((K P).lookup 2).getD default, #[], 0, B 2 _ (by kernel_rfl) (by decide), by kernel_rfl, (fun e he => by simp at he), fun _ => rfl⟩, rfl⟩
noncomputable abbrev kO (P : Params) (a : Addr) : Obj := ((K P).lookup a).getD default
theorem Bas.at {P : Params} {h : Heap} (B : Bas P h) (a : Addr) (e : ((K P).lookup a).isSome = true) (n : a ∉ tabs) : h.get? a = some (kO P a) := by
  refine B a _ ?_ n
  unfold kO
  cases q : (K P).lookup a with
  | none => rw [q] at e; cases e
  | some o => rfl
theorem Bas.code {P : Params} {h : Heap} (B : Bas P h) {c : Addr} {q : Str} {vs : Array Value} {t : Tok} (e : ((K P).lookup c).isSome = true) (n : c ∉ tabs) (hd : (kO P c).data = .fields vs) (hv : vs[1]? = some (.str q t)) : h.CodeRec (.ref c) q :=
  ⟨c, _, vs, t, rfl, B.at c e n, hd, hv⟩
end Mine
end
section
open PySem
namespace Mine.N
noncomputable abbrev n_data : Str := ⟨#[100, 97, 116, 97]⟩
noncomputable abbrev n_width : Str := ⟨#[119, 105, 100, 116, 104]⟩
noncomputable abbrev n_swapped_data : Str := ⟨#[115, 119, 97, 112, 112, 101, 100, 95, 100, 97, 116, 97]⟩
noncomputable abbrev n_i : Str := ⟨#[105]⟩
noncomputable abbrev n_j : Str := ⟨#[106]⟩
noncomputable abbrev n_script : Str := ⟨#[115, 99, 114, 105, 112, 116]⟩
noncomputable abbrev n_numbers : Str := ⟨#[110, 117, 109, 98, 101, 114, 115]⟩
noncomputable abbrev n_tape : Str := ⟨#[116, 97, 112, 101]⟩
noncomputable abbrev n_turned : Str := ⟨#[116, 117, 114, 110, 101, 100]⟩
noncomputable abbrev n_words : Str := ⟨#[119, 111, 114, 100, 115]⟩
noncomputable abbrev n_row : Str := ⟨#[114, 111, 119]⟩
noncomputable abbrev n_x : Str := ⟨#[120]⟩
noncomputable abbrev n_number : Str := ⟨#[110, 117, 109, 98, 101, 114]⟩
noncomputable abbrev n_place : Str := ⟨#[112, 108, 97, 99, 101]⟩
noncomputable abbrev n_word : Str := ⟨#[119, 111, 114, 100]⟩
noncomputable abbrev n_bytearray : Str := ⟨#[98, 121, 116, 101, 97, 114, 114, 97, 121]⟩
noncomputable abbrev n_len : Str := ⟨#[108, 101, 110]⟩
noncomputable abbrev n_range : Str := ⟨#[114, 97, 110, 103, 101]⟩
noncomputable abbrev n_bytes : Str := ⟨#[98, 121, 116, 101, 115]⟩
noncomputable abbrev n_sum : Str := ⟨#[115, 117, 109]⟩
noncomputable abbrev n_sorted : Str := ⟨#[115, 111, 114, 116, 101, 100]⟩
noncomputable abbrev n_cmp_to_key : Str := ⟨#[99, 109, 112, 95, 116, 111, 95, 107, 101, 121]⟩
noncomputable abbrev n_law_turn : Str := ⟨#[95, 108, 97, 119, 95, 116, 117, 114, 110]⟩
noncomputable abbrev n_law_number : Str := ⟨#[95, 108, 97, 119, 95, 110, 117, 109, 98, 101, 114]⟩
noncomputable abbrev n_byteswap : Str := ⟨#[95, 98, 121, 116, 101, 115, 119, 97, 112]⟩
noncomputable abbrev n_filemode : Str := ⟨#[102, 105, 108, 101, 109, 111, 100, 101]⟩
noncomputable abbrev n_law_signs : Str := ⟨#[95, 108, 97, 119, 95, 115, 105, 103, 110, 115]⟩
noncomputable abbrev n_S_IFMT : Str := ⟨#[83, 95, 73, 70, 77, 84]⟩
noncomputable abbrev n_reduce : Str := ⟨#[114, 101, 100, 117, 99, 101]⟩
noncomputable abbrev n_mode : Str := ⟨#[109, 111, 100, 101]⟩
noncomputable abbrev n_perm : Str := ⟨#[112, 101, 114, 109]⟩
noncomputable abbrev n_index : Str := ⟨#[105, 110, 100, 101, 120]⟩
noncomputable abbrev n_table : Str := ⟨#[116, 97, 98, 108, 101]⟩
noncomputable abbrev n_bit : Str := ⟨#[98, 105, 116]⟩
noncomputable abbrev n_char : Str := ⟨#[99, 104, 97, 114]⟩
noncomputable abbrev n_enumerate : Str := ⟨#[101, 110, 117, 109, 101, 114, 97, 116, 101]⟩
noncomputable abbrev n_filemode_table : Str := ⟨#[95, 102, 105, 108, 101, 109, 111, 100, 101, 95, 116, 97, 98, 108, 101]⟩
noncomputable abbrev n_append : Str := ⟨#[97, 112, 112, 101, 110, 100]⟩
noncomputable abbrev n_text : Str := ⟨#[116, 101, 120, 116]⟩
noncomputable abbrev n_k : Str := ⟨#[107]⟩
noncomputable abbrev n_more : Str := ⟨#[109, 111, 114, 101]⟩
noncomputable abbrev n_three : Str := ⟨#[116, 104, 114, 101, 101]⟩
noncomputable abbrev n_last : Str := ⟨#[108, 97, 115, 116]⟩
noncomputable abbrev n_zip : Str := ⟨#[122, 105, 112]⟩
noncomputable abbrev n_iter : Str := ⟨#[105, 116, 101, 114]⟩
noncomputable abbrev n_next : Str := ⟨#[110, 101, 120, 116]⟩
noncomputable abbrev n_function : Str := ⟨#[102, 117, 110, 99, 116, 105, 111, 110]⟩
noncomputable abbrev n_sequence : Str := ⟨#[115, 101, 113, 117, 101, 110, 99, 101]⟩
noncomputable abbrev n_initial : Str := ⟨#[105, 110, 105, 116, 105, 97, 108]⟩
noncomputable abbrev n_value : Str := ⟨#[118, 97, 108, 117, 101]⟩
noncomputable abbrev n_element : Str := ⟨#[101, 108, 101, 109, 101, 110, 116]⟩
noncomputable abbrev n_it : Str := ⟨#[105, 116]⟩
noncomputable abbrev n_initial_missing : Str := ⟨#[95, 105, 110, 105, 116, 105, 97, 108, 95, 109, 105, 115, 115, 105, 110, 103]⟩
noncomputable abbrev n_told : Str := ⟨#[116, 111, 108, 100]⟩
noncomputable abbrev n_octet : Str := ⟨#[111, 99, 116, 101, 116]⟩
noncomputable abbrev n_pair : Str := ⟨#[112, 97, 105, 114]⟩
noncomputable abbrev n_one : Str := ⟨#[111, 110, 101]⟩
noncomputable abbrev n_two : Str := ⟨#[116, 119, 111]⟩
noncomputable abbrev n_mycmp : Str := ⟨#[109, 121, 99, 109, 112]⟩
noncomputable abbrev n_K : Str := ⟨#[75]⟩
noncomputable abbrev n_obj : Str := ⟨#[111, 98, 106]⟩
noncomputable abbrev n_self : Str := ⟨#[115, 101, 108, 102]⟩
noncomputable abbrev n_other : Str := ⟨#[111, 116, 104, 101, 114]⟩
noncomputable abbrev n_key : Str := ⟨#[107, 101, 121]⟩
noncomputable abbrev n_upper : Str := ⟨#[117, 112, 112, 101, 114]⟩
noncomputable abbrev n_get : Str := ⟨#[103, 101, 116]⟩
noncomputable abbrev n_join : Str := ⟨#[106, 111, 105, 110]⟩
end Mine.N
end
section
open PySem PySem.W PySem.W.X PySem.W.XRun PyProof.Rows PySem.Calls
set_option Elab.async false
set_option maxRecDepth 100000
namespace Mine
section
variable {M : Model} {Γ : PySem.Ctx} {A : Around} {E : Value → Shared → Prop} {s : Shared} {env : Env}
theorem lloc {x : Str} {pos : Pos} {m : Str → Option Value} {v : Value} {Q : Value → Shared → Prop} (hn : s.heap.Ns env.locals m) (hv : m x = some v) (h : Q v s)
    (hk : env.scope.kind = .function) (hl : env.kindOf x = some .local) (hd : (x == ("__debug__" : Str)) = false) : wpAny M A (eval (.Name x pos) env) Q E s :=
  wpAny_Name (wpAny_loadName_local hk hl hn hv h) hd
theorem lglo {x : Str} {pos : Pos} {m : Str → Option Value} {v : Value} {Q : Value → Shared → Prop} (hn : s.heap.Ns env.globals m) (hv : m x = some v) (h : Q v s)
    (hk : env.scope.kind = .function) (hl : env.kindOf x = some .globalImplicit) (hd : (x == ("__debug__" : Str)) = false) : wpAny M A (eval (.Name x pos) env) Q E s :=
  Name_function_global hk hl (loadGlobal_global hn hv h) hd
theorem lbui {x : Str} {pos : Pos} {m m' : Str → Option Value} {v : Value} {Q : Value → Shared → Prop} (hn : s.heap.Ns env.globals m) (hm : m x = none) (hb : s.heap.Ns env.builtins m') (hv : m' x = some v) (h : Q v s)
    (hk : env.scope.kind = .function) (hl : env.kindOf x = some .globalImplicit) (hd : (x == ("__debug__" : Str)) = false) : wpAny M A (eval (.Name x pos) env) Q E s :=
  Name_function_global hk hl (loadGlobal_builtin hn hm hb hv h) hd
theorem G_execs_cons {st : Stmt} {rest : List Stmt} {Q : Flow → Shared → Prop}
    (h : G M Γ (exec st env) (fun f s' => match f with | .next => G M Γ (execs rest env) Q E s' | f => Q f s') E s) : G M Γ (execs (st :: rest) env) Q E s := by
  rw [execs_cons]
  refine G.bind (G.mono h (fun f s' h' => ?_) fun _ _ e => e)
  cases f <;> first | exact h' | exact G.pure h'
theorem G_Assign_Name {x : Str} {pos' pos : Pos} {value : Expr} {Q : Flow → Shared → Prop} (hΓ : Γ.In A)
    (h : G M Γ (eval value env) (fun v s₁ => wpAny M A (storeName env x v) (fun _ => Q .next) E s₁) E s)
    (hs : swapsWith value (some (.Name x pos')) pos.line env = pure false) : G M Γ (exec (.Assign [.Name x pos'] value pos) env) Q E s := by
  rw [exec_Assign_Name env x pos' value pos hs]
  refine G.bind (G.standAt (G.bind (G.mono h (fun v s₁ h₁ => G.bind (G.standAt ?_)) fun _ _ e => e)))
  exact G.bindA hΓ (wpAny_bindName (wpAny_mono h₁ (fun _ _ q => G.pure q) fun _ _ e => e))
theorem G_callWith_type {pos : Pos} {T : String} {first : List Value} {args : List (Bool × Sem Value)} {Q : Value → Shared → Prop} (hΓ : Γ.In A) (hplain : args.any (·.1) = false)
    (h : wpAny M A (evalArgs (.type T) true args []) (fun a s₁ => G M Γ (call (.type T) (first ++ a.pos) a.kw) Q E s₁) E s) : G M Γ (callWith pos (.type T) first args []) Q E s := by
  unfold callWith
  refine G.bindA hΓ (wpAny_holding (wpAny_mono h (fun a s₁ h₁ => G.bind (G.standAt ?_)) fun _ _ x => x))
  simp only [hplain, List.any_nil, Bool.or_false]
  refine G.bind (G.pure ?_)
  exact G.bind (G.mono h₁ (fun r s₂ hr => G.bind (G.holding (G.point (G.pure hr)))) fun _ _ x => x)
theorem G_callWith_fun {pos : Pos} {a : Addr} {o : Obj} {fd : FuncData} {first : List Value} {args : List (Bool × Sem Value)} {Q : Value → Shared → Prop} (hΓ : Γ.In A)
    (h : wpAny M A (evalArgs (.ref a) true args []) (fun x s₁ => (s₁.heap.get? a = some o ∧ o.data = .func fd) ∧ G M Γ (call (.ref a) (first ++ x.pos) x.kw) Q E s₁) E s) : G M Γ (callWith pos (.ref a) first args []) Q E s := by
  unfold callWith
  refine G.bindA hΓ (wpAny_holding (wpAny_mono h (fun x s₁ h₁ => G.bind (G.standAt ?_)) fun _ _ x => x))
  have tail : ∀ {t : Sem Value}, G M Γ t Q E s₁ → G M Γ (t >>= fun r => holding [r] point >>= fun _ => pure r) Q E s₁ :=
    fun ht => G.bind (G.mono ht (fun r s₂ hr => G.bind (G.holding (G.point (G.pure hr)))) fun _ _ x => x)
  cases hs : args.any (·.1) <;> simp only [List.any_nil, Bool.or_false] <;>
    refine G.bindA hΓ (m := keeperOf (.ref a)) ?_ <;> unfold keeperOf <;>
    refine wpAny_bind (wpAny_load h₁.1.1 ?_) <;> rw [h₁.1.2] <;> refine wpAny_pure ?_
  · dsimp only
    split <;> first | exact tail h₁.2 | exact tail (by unfold callMarked; exact G.keep h₁.2)
  · exact tail (by unfold callMarked; exact G.keep h₁.2)
theorem G_CallName {x : Str} {px pos : Pos} {args : List Expr} {Q : Value → Shared → Prop} (hΓ : Γ.In A)
    (h : wpAny M A (eval (.Name x px) env) (fun f s₁ => G M Γ (callWith pos f [] (backTo pos (starEach args env)) []) Q E s₁) E s) : G M Γ (eval (.Call (.Name x px) args [] pos) env) Q E s := by
  show G M Γ (do callWith pos (← eval (.Name x px) env) [] (backTo pos (starEach args env)) (backToKw pos (keywordEach [] env))) Q E s
  exact G.bindA hΓ h
theorem A_CallName {x : Str} {px pos : Pos} {args : List Expr} {Q : Value → Shared → Prop}
    (h : wpAny M A (eval (.Name x px) env) (fun f s₁ => wpAny M A (callWith pos f [] (backTo pos (starEach args env)) []) Q E s₁) E s) : wpAny M A (eval (.Call (.Name x px) args [] pos) env) Q E s := by
  show wpAny M A (do callWith pos (← eval (.Name x px) env) [] (backTo pos (starEach args env)) (backToKw pos (keywordEach [] env))) Q E s
  exact wpAny_bind h
end
end Mine
end
section
open PySem PySem.W PySem.W.X PySem.W.XRun PyProof.Rows PySem.Calls
set_option Elab.async false
set_option maxRecDepth 100000
namespace Mine
theorem forW {prog : Program} {w : World} {A : Around} {s : Shared} {env : Env} {target : Expr} {body orelse : List Stmt} {I : Addr} {fp wr : List Addr} {n : Nat} {P : Nat → Value → Prop} {St J : Nat → Heap → Prop} {Q : Flow → Shared → Prop} {E : Value → Shared → Prop}
    (W : Walks prog w A I fp wr n P St) (hst : St 0 s.heap) (hJ : J 0 s.heap)
    (hwr : ∀ i h h', J i h → (∀ b o, b ∉ wr → h.get? b = some o → h'.get? b = some o) → J i h')
    (turn : ∀ i v h tk E', i < n → P i v → St (i + 1) h → J i h → wpAny (model prog w) A (letOwnedTupleGo target (.ref I) v) (fun _ s₁ => wpAny (model prog w) A (assign target env v) (fun _ s₂ => wpAny (model prog w) A (execs body env) (fun f s₃ => match f with
      | .next | .cont => ∃ h' tk', s₃ = { s with heap := h', toks := tk' } ∧ St (i + 1) h' ∧ J (i + 1) h'
      | .brk => Q .next s₃
      | .ret v => Q (.ret v) s₃) E' s₂) E' s₁) E' { s with heap := h, toks := tk })
    (done : ∀ h tk E', J n h → wpAny (model prog w) A (execs orelse env) Q E' { s with heap := h, toks := tk }) :
    codeAny (model prog w) A (.forLoop target (.ref I) body orelse env) (fun r s' => match r with | .ok f => Q f s' | .error e => E e s') s := by
  refine codeAny_forLoop_any (fun k s' => ∃ h' tk i, s' = { s with heap := h', toks := tk } ∧ St i h' ∧ J i h' ∧ i ≤ n ∧ k = n - i) ?_ n ⟨s.heap, s.toks, 0, rfl, hst, hJ, Nat.zero_le _, rfl⟩
  rintro k s' ⟨h', tk, i, rfl, hst', hJ', hi, rfl⟩
  by_cases hlt : i < n
  · refine W.item i _ _ _ hlt hst' fun v h₁ tk₁ hP hst₁ hk₁ => ?_
    refine wpAny_mono (turn i v h₁ tk₁ _ hlt hP hst₁ (hwr _ _ _ hJ' hk₁)) (fun _ s₁ h₁ => wpAny_mono h₁ (fun _ s₂ h₂ => wpAny_mono h₂ (fun f s₃ h₃ => ?_) fun _ _ e => e) fun _ _ e => e) fun _ _ e => e
    cases f with
    | next => obtain ⟨h', tk', e, a, b⟩ := h₃; exact ⟨n - (i + 1), by omega, h', tk', i + 1, e, a, b, hlt, rfl⟩
    | cont => obtain ⟨h', tk', e, a, b⟩ := h₃; exact ⟨n - (i + 1), by omega, h', tk', i + 1, e, a, b, hlt, rfl⟩
    | brk => exact h₃
    | ret v => exact h₃
  · have : i = n := by omega
    subst this
    refine W.done _ _ _ hst' fun h₁ tk₁ hk₁ => ?_
    exact done h₁ tk₁ _ (hwr _ _ _ hJ' hk₁)
theorem ba_slotS : Slot "bytearray" "__setitem__" "bytearray.__setitem__" :=
  .of (owner := "bytearray") (n := "__setitem__") (by rw [typeLookup_type, builtinLookup_eq_fast]; kernel_rfl) (by decide +kernel) (by decide +kernel) (by decide +kernel) (.inl (by decide +kernel)) ba_sub
theorem ba_entryS : entryFor table "bytearray.__setitem__" = some Builtin.«bytearray.__setitem__» := entryFor_of_tree (by kernel_rfl)
theorem ba_argsS (a i v : Value) : argsOk "bytearray.__setitem__" ⟨[a, i, v], []⟩ := by unfold argsOk; kernel_rfl
theorem ba_sub? {M : Model} {A : Around} {E : Value → Shared → Prop} {s : Shared} {k : Int} {t : Tok} {Q : Option Int → Shared → Prop} (f1 : Builtin.Bytes.fitsIndex k = true) (h : Q (some k) s) :
    wpAny M A (Builtin.Bytes.subscript? (.int k t)) Q E s := by
  unfold Builtin.Bytes.subscript?
  refine wpAny_bind (wpAny_specialOf (T := "int") (typeIs_int s k t) int_index ?_)
  rw [if_neg (by simp)]
  refine wpAny_bind (m := asIndex _) (wpAny_of_eq (a := k) rfl ?_)
  rw [if_neg (by rw [f1]; decide)]
  exact wpAny_pure h
theorem ba_sub_bind {β : Type} {M : Model} {A : Around} {E : Value → Shared → Prop} {s : Shared} {k : Int} {t : Tok} {f : Option Int → Sem β} {Q : β → Shared → Prop} (f1 : Builtin.Bytes.fitsIndex k = true) (h : wpAny M A (f (some k)) Q E s) :
    wpAny M A (Builtin.Bytes.subscript? (.int k t) >>= f) Q E s := wpAny_bind (ba_sub? f1 h)
theorem ba_set {prog : Program} {w : World} {A : Around} {E : Value → Shared → Prop} {s : Shared} {a : Addr} {b : Array UInt8} {k x : Nat} {t u : Tok} {Q : Unit → Shared → Prop} (ho : s.heap.get? a = some (baObj b))
    (hk : k < b.size) (hb : b.size ≤ 1000) (hx : x < 256)
    (h : ∀ h', h'.get? a = some (baObj (b.setIfInBounds k x.toUInt8)) → Heap.SameBut a s.heap h' → Q () { s with heap := h' }) :
    wpAny (model prog w) A (setItem (.ref a) (.int k t) (.int x u)) Q E s := by
  have hT : s.TypeIs (.ref a) "bytearray" := ⟨_, ho, rfl⟩
  unfold setItem
  try with_reducible refine wpAny_holding ?_
  first | refine wpAny_bind (wpAny_pure ?_) | skip
  refine wpAny_bind (wpAny_sequenceKey hT (by decide) ?_)
  refine wpAny_bind (wpAny_callSpecial?_slot (name := Str.ofString "__setitem__") hT ba_slotS
    (wpAny_call_entry ba_slotS hT ba_entryS ?_ (ba_argsS _ _ _)))
  show wpAny _ _ (Builtin.Bytes.subscript? (.int k t) >>= fun r => _) _ _ s
  have f1 : Builtin.Bytes.fitsIndex (k : Int) = true := by
    simp only [Builtin.Bytes.fitsIndex, Bool.and_eq_true, decide_eq_true_eq]; omega
  with_reducible refine ba_sub_bind f1 ?_
  show wpAny _ _ (Builtin.Bytes.byteValue (.int x u) >>= fun r => _) _ _ s
  refine wpAny_bind ?_
  unfold Builtin.Bytes.byteValue
  refine wpAny_bind (m := asIndex _) (wpAny_of_eq (a := (x : Int)) rfl ?_)
  rw [if_neg (by simp only [Bool.or_eq_true, decide_eq_true_eq]; omega)]
  refine wpAny_pure ?_
  show wpAny _ _ (Builtin.Bytes.payload (.ref a) >>= fun r => _) _ _ s
  refine wpAny_bind (m := Builtin.Bytes.payload _) ?_
  unfold Builtin.Bytes.payload Builtin.Bytes.payload?
  refine wpAny_bind (wpAny_bind (wpAny_load ho ?_))
  refine wpAny_pure (wpAny_pure ?_)
  have e : seqIndex? (k : Int) b.size = some k := by
    unfold seqIndex?
    simp only
    split <;> simp_all <;> omega
  rw [e]
  dsimp only
  refine wpAny_bind (ba_write ho ?_ fun h' g k' => ?_)
  · simp; unfold sizeLine; omega
  refine wpAny_bind (wpAny_pure (wpAny_pure ?_))
  exact ⟨_, rfl, wpAny_pure (h _ (by rw [Int.toNat_natCast] at g; exact g) k')⟩
end Mine
end
section
open PySem PySem.W PySem.W.X PySem.W.XRun PyProof.Rows PySem.Calls
set_option Elab.async false
set_option maxRecDepth 100000
namespace Mine
noncomputable abbrev Off (wr : List Addr) (h h' : Heap) : Prop := ∀ b o, b ∉ wr → h.get? b = some o → h'.get? b = some o
theorem Off.of_same {a : Addr} {h h' : Heap} (k : Heap.SameBut a h h') : Off [a] h h' := fun b o hb e => (k.2 b (by simpa using hb)).trans e
theorem Off.of_kp {wr : List Addr} {h h' : Heap} (k : Kp h h') : Off wr h h' := fun b o _ e => k b o e
noncomputable def Fm (h₀ h : Heap) (L : Addr) (bs : List (Str × Value)) : Prop := ∃ m, Fr h₀ L h m ∧ ∀ p ∈ bs, m p.1 = some p.2
theorem Fm.ns {h₀ h : Heap} {L : Addr} {bs : List (Str × Value)} (F : Fm h₀ h L bs) : ∃ m, h.Ns L m ∧ ∀ p ∈ bs, m p.1 = some p.2 := let ⟨m, f, k⟩ := F; ⟨m, f.ns, k⟩
theorem Fm.keep {h₀ h : Heap} {L : Addr} {bs : List (Str × Value)} (F : Fm h₀ h L bs) : Kp h₀ h := let ⟨_, f, _⟩ := F; f.keep
theorem Fm.off {h₀ h h' : Heap} {L : Addr} {bs : List (Str × Value)} {wr : List Addr} (F : Fm h₀ h L bs) (k : Off wr h h') (hL : L ∉ wr) (hw : ∀ b ∈ wr, h₀.get? b = none) : Fm h₀ h' L bs :=
  let ⟨m, f, q⟩ := F
  ⟨m, ⟨f.ns.at' fun o e => k _ o hL e, fun b o e => k b o (fun hb => by rw [hw b hb] at e; cases e) (f.keep b o e), f.above⟩, q⟩
theorem Fm.kp {h₀ h h' : Heap} {L : Addr} {bs : List (Str × Value)} (F : Fm h₀ h L bs) (k : Kp h h') : Fm h₀ h' L bs := F.off (wr := []) (fun b o _ e => k b o e) (by simp) (by simp)
theorem Fm.gone {h₀ h : Heap} {L a : Addr} {bs : List (Str × Value)} (F : Fm h₀ h L bs) (e : h.get? a = none) : h₀.get? a = none := by
  cases q : h₀.get? a with
  | none => rfl
  | some o => rw [F.keep a o q] at e; cases e
theorem Fm.ne {h₀ h : Heap} {L a : Addr} {bs : List (Str × Value)} (F : Fm h₀ h L bs) (e : h.get? a = none) : L ≠ a := by
  rintro rfl
  obtain ⟨m, ⟨⟨o, _, _, ho, _⟩, _, _⟩, _⟩ := F
  rw [ho] at e; cases e
theorem Fm.lt {h₀ h : Heap} {L : Addr} {bs : List (Str × Value)} (F : Fm h₀ h L bs) : L < h.objs.size := by
  obtain ⟨m, ⟨⟨o, _, _, ho, _⟩, _, _⟩, _⟩ := F
  exact Heap.lt_size ho
theorem Fm.freshI {h₀ h : Heap} {L I : Addr} {bs : List (Str × Value)} (F : Fm h₀ h L bs) (hI : h.objs.size ≤ I) : ∀ b ∈ [I], h₀.get? b = none := by
  intro b hb
  rw [List.mem_singleton] at hb
  subst hb
  cases q : h₀.get? b with
  | none => rfl
  | some o => exact absurd (Heap.lt_size (F.keep b o q)) (Nat.not_lt.mpr hI)
theorem Fm.offI {h₀ g h h' : Heap} {L I : Addr} {bs bs' : List (Str × Value)} (F : Fm h₀ h L bs) (F0 : Fm h₀ g L bs') (hI : g.objs.size ≤ I) (k : Off [I] h h') : Fm h₀ h' L bs :=
  F.off k (by rw [List.mem_singleton]; exact Nat.ne_of_lt (Nat.lt_of_lt_of_le F0.lt hI)) (F0.freshI hI)
theorem off_at {g h h' : Heap} {I a : Addr} {o x : Obj} (k : Off [I] h h') (hg : g.get? a = some x) (hI : g.objs.size ≤ I) (e : h.get? a = some o) : h'.get? a = some o :=
  k a o (by rw [List.mem_singleton]; exact Nat.ne_of_lt (Nat.lt_of_lt_of_le (Heap.lt_size hg) hI)) e
theorem size_push (h : Heap) (o : Obj) : (h.push o).objs.size = h.objs.size + 1 := by simp [Heap.push]
theorem push_le (h : Heap) (o : Obj) : h.objs.size ≤ (h.push o).objs.size := by rw [size_push]; lia
theorem kp_push (h : Heap) (o : Obj) : Kp h (h.push o) := fun _ _ e => Heap.get?_push_of_some _ e
theorem Fm.less {h₀ h : Heap} {L : Addr} {bs bs' : List (Str × Value)} (F : Fm h₀ h L bs) (k : ∀ p ∈ bs', p ∈ bs) : Fm h₀ h L bs' := let ⟨m, f, q⟩ := F; ⟨m, f, fun p hp => q p (k p hp)⟩
theorem Fm.of {h₀ h : Heap} {L : Addr} {bs : List (Str × Value)} (F : Fr h₀ L h (fun x => bs.reverse.lookup x)) (hb : (bs.reverse.map (·.1)).Nodup) : Fm h₀ h L bs := by
  refine ⟨_, F, fun p hp => ?_⟩
  have key : ∀ (l : List (Str × Value)), (l.map (·.1)).Nodup → p ∈ l → l.lookup p.1 = some p.2 := by
    intro l
    induction l with
    | nil => intro _ h; cases h
    | cons a l ih =>
      intro hn hm
      rw [List.map_cons, List.nodup_cons] at hn
      rcases List.mem_cons.mp hm with rfl | hm
      · simp [List.lookup]
      · have : (p.1 == a.1) = false := by
          rw [beq_eq_false_iff_ne]; intro e; exact hn.1 (e ▸ List.mem_map_of_mem hm)
        rw [List.lookup_cons, this]
        exact ih hn.2 hm
  exact key _ hb (List.mem_reverse.mpr hp)
section
variable {M : Model} {A : Around} {E : Value → Shared → Prop} {s : Shared} {env : Env} {h₀ : Heap} {bs : List (Str × Value)}
theorem ldF {x : Str} {pos : Pos} {v : Value} {Q : Value → Shared → Prop} {L : Addr} (F : Fm h₀ s.heap L bs) (hv : (x, v) ∈ bs) (h : Q v s)
    (hL : env.locals = L) (hk : env.scope.kind = .function) (hl : env.kindOf x = some .local) (hd : (x == ("__debug__" : Str)) = false) : wpAny M A (eval (.Name x pos) env) Q E s :=
  let ⟨_, f, q⟩ := F.ns
  lloc (hL ▸ f) (q _ hv) h hk hl hd
theorem stF {x : Str} {v : Value} {Q : Unit → Shared → Prop} {L : Addr} (bs' : List (Str × Value)) (F : Fm h₀ s.heap L bs)
    (hb : bs' = (x, v) :: bs.filter fun p => !(p.1 == x))
    (h : ∀ h', Fm h₀ h' L bs' → Heap.SameBut L s.heap h' → Q () { s with heap := h', toks := s.toks + 1 })
    (hL : env.locals = L) (hk : env.scope.kind = .function) (hl : env.kindOf x = some .local) : wpAny M A (storeName env x v) Q E s := by
  obtain ⟨m, f, q⟩ := F
  subst hL
  refine wpAny_storeName_local hl f.ns (fun h' hn hs => h h' ⟨_, f.set hn hs, fun p hp => ?_⟩ hs) (by rw [hk]; rfl)
  subst hb
  rcases List.mem_cons.mp hp with rfl | hp
  · simp
  · rw [List.mem_filter] at hp
    have : p.1 ≠ x := by simpa using hp.2
    simp only [this, if_false]
    exact q p hp.1
noncomputable def Cal (s : Shared) (f : Value) : Prop := (∃ id, f = .builtin id) ∨ (∃ T, f = .type T) ∨ ∃ a o fd, f = .ref a ∧ s.heap.get? a = some o ∧ o.data = .func fd
theorem A_callWith {pos : Pos} {f : Value} {x : Sem Value} {rest : List (Bool × Sem Value)} {Q : Value → Shared → Prop} (hplain : rest.any (·.1) = false)
    (h : wpAny M A (spliced ((false, x) :: rest)) (fun vs s₁ => Cal s₁ f ∧ wpAny M A (call f vs) Q E s₁) E s) : wpAny M A (callWith pos f [] ((false, x) :: rest) []) Q E s := by
  unfold callWith
  refine wpAny_bind (wpAny_holding (wpAny_mono (evalArgs_plain (Q := fun a s₁ => (a.kw = [] ∧ Cal s₁ f ∧ wpAny M A (call f a.pos) Q E s₁)) (wpAny_mono h (fun vs s₁ h₁ => ⟨rfl, h₁⟩) fun _ _ e => e)) (fun a s₁ h₁ => wpAny_bind (wpAny_standAt ?_)) fun _ _ x => x))
  obtain ⟨hk, hc, h₁⟩ := h₁
  have tail : ∀ {t : Sem Value}, wpAny M A t Q E s₁ → wpAny M A (t >>= fun r => holding [r] point >>= fun _ => pure r) Q E s₁ :=
    fun ht => wpAny_bind (wpAny_mono ht (fun r s₂ hr => wpAny_bind (wpAny_holding (wpAny_point (wpAny_pure hr)))) fun _ _ x => x)
  have e : (((false, x) :: rest).any (·.1)) = false := by simpa using hplain
  simp only [e, List.any_nil, Bool.or_false, hk, List.nil_append]
  rcases hc with ⟨id, rfl⟩ | ⟨T, rfl⟩ | ⟨a, o, fd, rfl, ho, hd⟩
  · exact wpAny_bind (wpAny_pure (tail h₁))
  · exact wpAny_bind (wpAny_pure (tail h₁))
  · refine wpAny_bind (m := keeperOf (.ref a)) ?_
    unfold keeperOf
    refine wpAny_bind (wpAny_load ho ?_)
    rw [hd]
    refine wpAny_pure ?_
    dsimp only
    split <;> first | exact tail h₁ | exact tail (by unfold callMarked; exact wpAny_keep h₁)
theorem A_call1 {x : Str} {px pos : Pos} {e : Expr} {f : Value} {Q : Value → Shared → Prop}
    (h : wpAny M A (eval (.Name x px) env) (fun g s₁ => g = f ∧ wpAny M A (eval e env) (fun v s₂ => Cal s₂ f ∧ wpAny M A (call f [v]) Q E s₂) E s₁) E s)
    (he : starEach [e] env = [(false, eval e env)]) : wpAny M A (eval (.Call (.Name x px) [e] [] pos) env) Q E s := by
  refine A_CallName (wpAny_mono h (fun g s₁ h₁ => ?_) fun _ _ e => e)
  obtain ⟨rfl, h₁⟩ := h₁
  rw [he]
  exact A_callWith rfl (spliced_cons (wpAny_mono h₁ (fun v s₂ h₂ => spliced_nil h₂) fun _ _ e => e))
theorem A_call2 {x : Str} {px pos : Pos} {e e' : Expr} {f : Value} {Q : Value → Shared → Prop}
    (h : wpAny M A (eval (.Name x px) env) (fun g s₁ => g = f ∧ wpAny M A (eval e env) (fun v s₂ => wpAny M A (eval e' env) (fun v' s₃ => Cal s₃ f ∧ wpAny M A (call f [v, v']) Q E s₃) E s₂) E s₁) E s)
    (he : starEach [e, e'] env = [(false, eval e env), (false, eval e' env)]) : wpAny M A (eval (.Call (.Name x px) [e, e'] [] pos) env) Q E s := by
  refine A_CallName (wpAny_mono h (fun g s₁ h₁ => ?_) fun _ _ e => e)
  obtain ⟨rfl, h₁⟩ := h₁
  rw [he]
  exact A_callWith rfl (spliced_cons (wpAny_mono h₁ (fun v s₂ h₂ => spliced_cons (wpAny_mono h₂ (fun v' s₃ h₃ => spliced_nil h₃) fun _ _ e => e)) fun _ _ e => e))
theorem A_call3 {x : Str} {px pos : Pos} {e e' e'' : Expr} {f : Value} {Q : Value → Shared → Prop}
    (h : wpAny M A (eval (.Name x px) env) (fun g s₁ => g = f ∧ wpAny M A (eval e env) (fun v s₂ => wpAny M A (eval e' env) (fun v' s₃ => wpAny M A (eval e'' env) (fun v'' s₄ => Cal s₄ f ∧ wpAny M A (call f [v, v', v'']) Q E s₄) E s₃) E s₂) E s₁) E s)
    (he : starEach [e, e', e''] env = [(false, eval e env), (false, eval e' env), (false, eval e'' env)]) : wpAny M A (eval (.Call (.Name x px) [e, e', e''] [] pos) env) Q E s := by
  refine A_CallName (wpAny_mono h (fun g s₁ h₁ => ?_) fun _ _ e => e)
  obtain ⟨rfl, h₁⟩ := h₁
  rw [he]
  exact A_callWith rfl (spliced_cons (wpAny_mono h₁ (fun v s₂ h₂ => spliced_cons (wpAny_mono h₂ (fun v' s₃ h₃ => spliced_cons (wpAny_mono h₃ (fun v'' s₄ h₄ => spliced_nil h₄) fun _ _ e => e)) fun _ _ e => e)) fun _ _ e => e))
theorem calB {s : Shared} {id : String} : Cal s (.builtin id) := .inl ⟨_, rfl⟩
theorem calT {s : Shared} {T : String} : Cal s (.type T) := .inr (.inl ⟨_, rfl⟩)
theorem calF {s : Shared} {a : Addr} {o : Obj} {fd : FuncData} (h : s.heap.get? a = some o) (e : o.data = .func fd) : Cal s (.ref a) := .inr (.inr ⟨_, _, _, rfl, h, e⟩)
end
theorem A_forRange {prog : Program} {w : World} {A : Around} {s : Shared} {env : Env} {target : Expr} {body orelse : List Stmt} {r : Addr} {a b c : Int} {t u v : Tok} {n : Nat} {J : Nat → Heap → Prop} {Q : Flow → Shared → Prop} {E : Value → Shared → Prop}
    (hh : A.handled = none) (hr : IsRange s.heap r a b c t u v) (hsmall : Builtin.Range.small a b c = true) (hn : Builtin.Range.rangeSize a b c = (n : Int))
    (hJ : ∀ h, Kp s.heap h → J 0 h)
    (hwr : ∀ I, s.heap.objs.size ≤ I → ∀ i h h', J i h → Off [I] h h' → J i h')
    (turn : ∀ I oI, s.heap.objs.size ≤ I → ∀ i tv h tk E', i < n → h.get? I = some oI → J i h → wpAny (model prog w) A (assign target env (.int (a + i * c) tv)) (fun _ s₂ => wpAny (model prog w) A (execs body env) (fun f s₃ => match f with
      | .next | .cont => ∃ h' tk', s₃ = { s with heap := h', toks := tk' } ∧ h'.get? I = some oI ∧ J (i + 1) h'
      | .brk => Q .next s₃
      | .ret v => Q (.ret v) s₃) E' s₂) E' { s with heap := h, toks := tk })
    (done : ∀ h tk E', J n h → wpAny (model prog w) A (execs orelse env) Q E' { s with heap := h, toks := tk })
    (ht : ∀ it v, letOwnedTupleGo target it v = pure ()) :
    wpAny (model prog w) A (pyIter (.ref r)) (fun it s₂ => codeAny (model prog w) A (.forLoop target it body orelse env) (fun r s' => match r with | .ok f => Q f s' | .error e => E e s') s₂) E' s := by
  refine wpAny_pyIter_range hr hsmall ?_
  refine forW (Walks.range hh s.heap.objs.size a c n) (J := J) ?_ (hJ _ fun b o e => Heap.get?_push_of_some _ e) (hwr _ (Nat.le_refl _)) ?_ ?_
  · show IsRangeIter _ _ _ _ _
    rw [hn]; simpa using Heap.get?_push_size _ rfl
  · rintro i v h tk E' hi ⟨tv, rfl⟩ st hj
    exact wpAny_of_eq (ht _ _) (turn _ _ (Nat.le_refl _) i tv h tk E' hi st hj)
  · exact done
end Mine
end
section
open PySem PySem.W PySem.W.X PySem.W.XRun PyProof.Rows PySem.Calls
set_option Elab.async false
set_option maxRecDepth 100000
namespace Mine
section

set_option maxHeartbeats 0 in
theorem ba_bytesM (prog : Program) (w : World) (s : Shared) (a : Addr) (b : Array UInt8) (hb : b.size ≤ 1000) (ha : s.heap.get? a = some ⟨.type "bytearray", none, .bytearray b 0, #[]⟩) (Q : Value → Shared → Prop) (E : Value → Shared → Prop)
    (hQ : Ret Q s fun v h' => ∃ t, v = .bytes b t ∧ Kp s.heap h') :
    wpAny (model prog w) AM (call (.type "bytes") [.ref a]) Q E s := by
  have m0 := Mem.start s.heap
  have hX := ret0 (v0 := .bytes b s.toks) hQ ⟨_, rfl, fun _ _ e => e⟩
  x_run
end
end Mine
end
section
open PySem PySem.W PySem.W.X PySem.W.XRun PyProof.Rows PySem.Calls
set_option Elab.async false
namespace Mine
theorem absQ {α : Type} {M : Model} {A : Around} {E : Value → Shared → Prop} {s : Shared} {m : Sem α} {Q : α → Shared → Prop} (h : ∀ Q' : α → Shared → Prop, (∀ v s', Q v s' → Q' v s') → wpAny M A m Q' E s) : wpAny M A m Q E s := h Q fun _ _ x => x
theorem any_tok {α : Type} {M : Model} {A : Around} {E : Value → Shared → Prop} {s : Shared} {m : Sem α} {hp : Heap} {tk0 : Nat} {Q : α → Shared → Prop} (h : ∀ tk, wpAny M A m Q E { s with heap := hp, toks := tk }) : wpAny M A m Q E { s with heap := hp, toks := tk0 } := h tk0
theorem all2 {α : Type} {P : α → Prop} {a b : α} (ha : P a) (hb : P b) : ∀ p ∈ [a, b], P p := List.forall_mem_cons.mpr ⟨ha, List.forall_mem_cons.mpr ⟨hb, nofun⟩⟩
theorem all3 {α : Type} {P : α → Prop} {a b c : α} (ha : P a) (hb : P b) (hc : P c) : ∀ p ∈ [a, b, c], P p := List.forall_mem_cons.mpr ⟨ha, all2 hb hc⟩
theorem all4 {α : Type} {P : α → Prop} {a b c d : α} (ha : P a) (hb : P b) (hc : P c) (hd : P d) : ∀ p ∈ [a, b, c, d], P p := List.forall_mem_cons.mpr ⟨ha, all3 hb hc hd⟩
theorem nm1 {α : Type} {x a : α} (h : x ≠ a) : x ∉ [a] := fun q => h (List.mem_singleton.mp q)
theorem nm2 {α : Type} {x a b : α} (h : x ≠ a) (h2 : x ≠ b) : x ∉ [a, b] := List.not_mem_cons_of_ne_of_not_mem h (nm1 h2)
theorem nm3 {α : Type} {x a b c : α} (h : x ≠ a) (h2 : x ≠ b) (h3 : x ≠ c) : x ∉ [a, b, c] := List.not_mem_cons_of_ne_of_not_mem h (nm2 h2 h3)
end Mine
end
section
open PySem PySem.W PySem.W.X PySem.W.XRun PyProof.Rows PySem.Calls
set_option Elab.async false
set_option maxRecDepth 100000
namespace Mine
theorem mb_bytearray (P : Params) : mb P N.n_bytearray = some (.type "bytearray") := by kernel_rfl
theorem mg_bytearray (P : Params) : mg P N.n_bytearray = none := by kernel_rfl
theorem mb_range (P : Params) : mb P N.n_range = some (.type "range") := by kernel_rfl
theorem mg_range (P : Params) : mg P N.n_range = none := by kernel_rfl
theorem mb_bytes (P : Params) : mb P N.n_bytes = some (.type "bytes") := by kernel_rfl
theorem mg_bytes (P : Params) : mg P N.n_bytes = none := by kernel_rfl
theorem mb_len' (P : Params) : mb P N.n_len = some (.builtin "len") := by kernel_rfl
theorem mg_len' (P : Params) : mg P N.n_len = none := by kernel_rfl
theorem rs (m wd : Nat) (h1 : 2 ≤ wd) (h2 : wd ≤ 4) : Builtin.Range.rangeSize 0 ((m * wd : Nat) : Int) wd = (m : Int) := by
  unfold Builtin.Range.rangeSize
  obtain rfl | rfl | rfl : wd = 2 ∨ wd = 3 ∨ wd = 4 := by lia
  all_goals (rw [if_pos (by decide)]; split <;> lia)
theorem rsmall (m wd : Nat) (h1 : 2 ≤ wd) (h2 : wd ≤ 4) (hm : m ≤ 9) : Builtin.Range.small 0 ((m * wd : Nat) : Int) wd = true := by
  unfold Builtin.Range.small
  rw [rs m wd h1 h2]
  have : m * wd ≤ 36 := Nat.mul_le_mul hm h2
  generalize m * wd = x at this ⊢
  rw [if_pos (by lia : (wd : Int) > 0)]
  simp only [Builtin.Range.rangeFitsLong, Bool.and_eq_true, Bool.or_eq_true, decide_eq_true_eq, beq_iff_eq]
  lia
theorem G_fun {prog : Program} {w : World} {Γ : PySem.Ctx} {A : Around} {E : Value → Shared → Prop} {Q : Value → Shared → Prop} {s : Shared} {name : Str} {params : Arguments} {body : List Stmt} {scope : Scope}
    {pm cd doc : Value} {a : Addr} {o : Obj} {args : List Value} (binds : List (Str × Value)) (hΓ : Γ.In A) (x : Cln Γ)
    (hroom : A.depth < recursionLimit) (ho : s.heap.get? a = some o) (hdata : o.data = .func (docDef name params body scope pm cd doc)) (hlim : s.heap.NoLimit) (hcd : s.heap.CodeRec cd name)
    (hbind : bindArgs (docDef name params body scope pm cd doc) ⟨args, []⟩ = pure binds)
    (hloc : ∀ x ∈ binds, scope.names.lookup x.1 = some .local) (hnd : (binds.reverse.map (·.1)).Nodup)
    (h : ∀ Γ' A' h₁ L tk, Γ'.In A' → (A'.handled = A.handled ∧ A'.depth = A.depth + 1 ∧ A'.units = A.units + 3) → Cln Γ' → Fm s.heap h₁ L binds →
      G (model prog w) Γ' (execs body (envOf name scope L a cd)) (fun f s' => Q (match f with | .ret v => v | _ => .none) s') (fun _ _ => False) { s with heap := h₁, toks := tk })
    (hco : scope.isCoroutine = false) (hgen : scope.isGenerator = false) (hk : scope.kind = .function)
    (hcell : ∀ x ∈ scope.names, x.2 ≠ .cell) : G (model prog w) Γ (call (.ref a) args) Q E s := by
  refine G.call fun p => ?_
  have hen : (Γ.enter (.call (.ref a) ⟨args, []⟩) none p).Below A := hΓ.enter _ none p (by intro x; cases x)
  refine Gc_fun (A := A) rfl hen hroom ho hdata hlim hcd hbind hloc (fun h₁ F => ?_) hco hgen hk hcell
  exact h _ _ _ _ _ (hen.goto _).in ⟨rfl, rfl, rfl⟩ ((x.enter rfl).goto rfl) (Fm.of F hnd)
theorem baSet {prog : Program} {w : World} {A : Around} {E : Value → Shared → Prop} {s : Shared} {a : Addr} {b : Array UInt8} {ki : Int} {k x : Nat} {t u : Tok} {Q : Unit → Shared → Prop} (e : ki = (k : Int)) (ho : s.heap.get? a = some (baObj b))
    (hk : k < b.size) (hb : b.size ≤ 1000) (hx : x < 256)
    (h : ∀ h', h'.get? a = some (baObj (b.setIfInBounds k x.toUInt8)) → Heap.SameBut a s.heap h' → Q () { s with heap := h' }) :
    wpAny (model prog w) A (setItem (.ref a) (.int ki t) (.int x u)) Q E s := by subst e; exact ba_set ho hk hb hx h
theorem getB {prog : Program} {w : World} {A : Around} {E : Value → Shared → Prop} {s : Shared} {b : Array UInt8} {ki : Int} {k : Nat} {t u : Tok} {Q : Value → Shared → Prop} (e : ki = (k : Int)) (hb : b.size ≤ 1000) (hk : k < b.size)
    (h : Q (.int ((b[k].toNat : Nat) : Int) s.toks) { s with toks := s.toks + 1 }) : wpAny (model prog w) A (getItem (.bytes b t) (.int ki u)) Q E s := by
  subst e
  have e : b = b.toList.toArray := by simp
  rw [e]
  refine getItem_bytes (by simp; lia) (by lia) (by simp; lia) ?_
  rw [Int.toNat_natCast]
  have : b.toList.getD k 0 = b[k] := by simp [List.getD, hk]
  rw [this]; exact h
theorem idx_lt {i m wd r : Nat} (hi : i < m) (hr : r < wd) : i * wd + r < m * wd := by
  have : (i + 1) * wd ≤ m * wd := Nat.mul_le_mul_right _ hi
  rw [Nat.succ_mul] at this
  lia
theorem idx_ne {i i' wd r r' : Nat} (hi : i' < i) (hr : r' < wd) : i' * wd + r' ≠ i * wd + r := by
  have : (i' + 1) * wd ≤ i * wd := Nat.mul_le_mul_right _ hi
  rw [Nat.succ_mul] at this
  lia
set_option maxHeartbeats 1000000 in
theorem byteswap {w : World} {Γ : PySem.Ctx} {A : Around} {E : Value → Shared → Prop} {s : Shared} {b : Array UInt8} {m wd : Nat} {tb tw : Tok} {Q : Value → Shared → Prop} (hΓ : Γ.In A) (ok : AOk A) (hu : A.units ≤ 1000) (hdp : A.depth ≤ 400) (x : Cln Γ)
    (B : Bas w.params s.heap) (hb : b.size = m * wd) (hm : m ≤ 9) (hw1 : 2 ≤ wd) (hw2 : wd ≤ 4)
    (h : ∀ h' tk t' (c : Array UInt8), Kp s.heap h' → c.size = m * wd → (∀ i < m, ∀ j < wd, c[i * wd + (wd - 1 - j)]? = b[i * wd + j]?) → Q (.bytes c t') { s with heap := h', toks := tk }) :
    G (model prog w) Γ (call (.ref 21) [.bytes b tb, .int wd tw]) Q E s := by
  refine G_fun (hco := by rfl) (hgen := by rfl) (hk := by rfl) (hcell := by decide) [(N.n_data, .bytes b tb), (N.n_width, .int wd tw)] hΓ x (by show A.depth < 1000; lia) (B.at 21 rfl (by decide)) (by exact rfl) B.lim (B.code (c := 20) (by rfl) (by decide) (by exact rfl) (by exact rfl)) (by exact rfl) (by exact locs rfl) (by show [N.n_width, N.n_data].Nodup; decide) ?_
  rintro Γ2 A2 h₁ L tk hΓ2 ⟨e1, e2, e3⟩ x2 F1
  have ok2 : AOk A2 := ⟨e1.trans ok.handled, by lia, by lia⟩
  have hsz : m * wd ≤ 36 := Nat.mul_le_mul hm hw2
  have B1 := B.keeps F1.keep
  refine G_execs_cons (G_Assign_Name (hs := by rfl) hΓ2 (G_CallName hΓ2 (lbui (hk := by rfl) (hl := by rfl) (hd := by rfl) B1.g (mg_bytearray _) B1.b (mb_bytearray _) ?_)))
  refine G_callWith_type hΓ2 rfl (evalArgs_plain (spliced_cons (A_call1 (he := by rfl) (f := .builtin "len") (lbui (hk := by rfl) (hl := by rfl) (hd := by rfl) B1.g (mg_len' _) B1.b (mb_len' _) ⟨rfl, ?_⟩))))
  refine ldF (hL := by rfl) (hk := by rfl) (hl := by rfl) (hd := by rfl) F1 (by k_mem) ⟨calB, len_bytes (by lia) (spliced_nil ?_)⟩
  refine G_bytearray hΓ2 ok2 (by lia) x2 (by lia) (by lia) fun a h₂ tk₂ g₂ n₂ k₂ => ?_
  have F2 := F1.kp k₂
  have hLa : L ≠ a := F1.ne n₂
  have h0a := F1.gone n₂
  refine stF (hL := by rfl) (hk := by rfl) (hl := by rfl) [(N.n_swapped_data, .ref a), (N.n_data, .bytes b tb), (N.n_width, .int wd tw)] F2 rfl fun h₃ F3 k₃ => ?_
  have g₃ : h₃.get? a = some (baObj (Array.replicate (m * wd) 0)) := by
    exact (k₃.2 a (Ne.symm hLa)).trans (g₂.trans (by rw [Int.toNat_natCast, hb]))
  clear F2 F1 k₃ g₂ n₂ k₂
  have B3 := B.keeps F3.keep
  -- the rest stands for any context
  refine G.of_any hΓ2 (any_tok (s := s) (hp := h₃) fun tk₃ => ?_)
  refine wpAny_execs_cons (wpAny_For (A_call3 (he := by rfl) (f := .type "range") (lbui (hk := by rfl) (hl := by rfl) (hd := by rfl) B3.g (mg_range _) B3.b (mb_range _) ⟨rfl, wpAny_Constant_int ?_⟩)))
  refine A_call1 (he := by rfl) (f := .builtin "len") (lbui (hk := by rfl) (hl := by rfl) (hd := by rfl) B3.g (mg_len' _) B3.b (mb_len' _) ⟨rfl, ?_⟩)
  refine ldF (hL := by rfl) (hk := by rfl) (hl := by rfl) (hd := by rfl) F3 (by k_mem) ⟨calB, len_bytes (by lia) ?_⟩
  refine ldF (hL := by rfl) (hk := by rfl) (hl := by rfl) (hd := by rfl) F3 (by k_mem) ⟨calT, call_range_3 (by lia) ?_ (.inl (PyProof.noPylong_small (by lia)))⟩
  rw [hb]
  have hr := IsRange.new h₃ 0 ((m * wd : Nat) : Int) wd
  refine A_forRange (ht := by intro _ _; rfl) (n := m) (J := fun k hh => ∃ c : Array UInt8, Fm s.heap hh L [(N.n_swapped_data, .ref a), (N.n_data, .bytes b tb), (N.n_width, .int wd tw)] ∧ hh.get? a = some (baObj c) ∧ c.size = m * wd ∧ ∀ i < k, ∀ j < wd, c[i * wd + (wd - 1 - j)]? = b[i * wd + j]?)
    ok2.handled (hr _ _ _) (rsmall m wd hw1 hw2 hm) (rs m wd hw1 hw2) ?_ ?_ ?_ ?_
  · intro h k
    have k' : Kp h₃ h := fun b o e => k b o (Heap.get?_push_of_some _ e)
    exact ⟨_, F3.kp k', k' _ _ g₃, by simp, by intro i hi; lia⟩
  · rintro I hI i h h' ⟨c, F, g, z, q⟩ k
    have hI' : h₃.objs.size ≤ I := Nat.le_trans (push_le _ _) hI
    exact ⟨c, F.offI F3 hI' k, off_at k g₃ hI' g, z, q⟩
  · rintro I oI hI i tv h tk E' hi hit ⟨c, F, g, z, q⟩
    have hI' : h₃.objs.size ≤ I := Nat.le_trans (push_le _ _) hI
    have hIL : I ≠ L := Nat.ne_of_gt (Nat.lt_of_lt_of_le F3.lt hI')
    have hIa : I ≠ a := Nat.ne_of_gt (Nat.lt_of_lt_of_le (Heap.lt_size g₃) hI')
    refine wpAny_assign_Name (stF (hL := by rfl) (hk := by rfl) (hl := by rfl) [(N.n_i, .int (0 + i * wd) tv), (N.n_swapped_data, .ref a), (N.n_data, .bytes b tb), (N.n_width, .int wd tw)] F rfl fun h₄ F4 k₄ => any_tok (s := s) (hp := h₄) fun tk₄ => absQ fun K hK => ?_)
    have g₄ := (k₄.2 a (Ne.symm hLa)).trans g
    have i₄ := (k₄.2 I hIL).trans hit
    clear g hit k₄ F
    have B4 := B.keeps F4.keep
    refine wpAny_execs_cons (wpAny_For (A_call1 (he := by rfl) (f := .type "range") (lbui (hk := by rfl) (hl := by rfl) (hd := by rfl) B4.g (mg_range _) B4.b (mb_range _) ⟨rfl, ?_⟩)))
    refine ldF (hL := by rfl) (hk := by rfl) (hl := by rfl) (hd := by rfl) F4 (by k_mem) ⟨calT, call_range_1 ?_⟩
    refine A_forRange (ht := by intro _ _; rfl) (n := wd) (J := fun k hh => ∃ c : Array UInt8, Fm s.heap hh L [(N.n_i, .int (0 + i * wd) tv), (N.n_swapped_data, .ref a), (N.n_data, .bytes b tb), (N.n_width, .int wd tw)] ∧ hh.get? a = some (baObj c) ∧ c.size = m * wd ∧ hh.get? I = some oI ∧ (∀ i' < i, ∀ j < wd, c[i' * wd + (wd - 1 - j)]? = b[i' * wd + j]?) ∧ ∀ j < k, c[i * wd + (wd - 1 - j)]? = b[i * wd + j]?)
      ok2.handled (IsRange.new h₄ 0 wd 1 _ _ _) (small_one (by lia) (by lia) (by lia) (by lia)) (by rw [rangeSize_one]; split <;> lia) ?_ ?_ ?_ ?_
    · intro h k
      have k' : Kp h₄ h := fun b o e => k b o (Heap.get?_push_of_some _ e)
      exact ⟨_, F4.kp k', k' _ _ g₄, z, k' _ _ i₄, q, by intro i hi; lia⟩
    · rintro I₂ hI₂ j h h' ⟨c, F, g, z, gi, q, q2⟩ k
      have hI₂' : h₄.objs.size ≤ I₂ := Nat.le_trans (push_le _ _) hI₂
      exact ⟨c, F.offI F4 hI₂' k, off_at k g₄ hI₂' g, z, off_at k i₄ hI₂' gi, q, q2⟩
    · rintro I₂ oI₂ hI₂ j tv₂ h tk E' hj hit₂ ⟨c, F, g, z, gi, q, q2⟩
      have hI₂' : h₄.objs.size ≤ I₂ := Nat.le_trans (push_le _ _) hI₂
      have hI₂L : I₂ ≠ L := Nat.ne_of_gt (Nat.lt_of_lt_of_le F4.lt hI₂')
      have hI₂a : I₂ ≠ a := Nat.ne_of_gt (Nat.lt_of_lt_of_le (Heap.lt_size g₄) hI₂')
      refine wpAny_assign_Name (stF (hL := by rfl) (hk := by rfl) (hl := by rfl) [(N.n_j, .int (0 + j * 1) tv₂), (N.n_i, .int (0 + i * wd) tv), (N.n_swapped_data, .ref a), (N.n_data, .bytes b tb), (N.n_width, .int wd tw)] F rfl fun h₅ F5 k₅ => any_tok (s := s) (hp := h₅) fun tk₅ => absQ fun K2 hK2 => ?_)
      have g₅ := (k₅.2 a (Ne.symm hLa)).trans g
      have i₅ := (k₅.2 I hIL).trans gi
      have j₅ := (k₅.2 I₂ hI₂L).trans hit₂
      clear g gi hit₂ k₅ F
      refine wpAny_execs_cons (wpAny_Assign_Subscript (wpAny_Subscript_BinOp_late (ldF (hL := by rfl) (hk := by rfl) (hl := by rfl) (hd := by rfl) F5 (by k_mem) (wpAny_BinOp (ldF (hL := by rfl) (hk := by rfl) (hl := by rfl) (hd := by rfl) F5 (by k_mem) (ldF (hL := by rfl) (hk := by rfl) (hl := by rfl) (hd := by rfl) F5 (by k_mem) (add_int ?_)))))))
      have hk : i * wd + j < b.size := by rw [hb]; exact idx_lt hi hj
      have hk2 : i * wd + (wd - 1 - j) < c.size := by rw [z]; exact idx_lt hi (by lia)
      have ex : (0 + (i : Int) * (wd : Int) + (0 + (j : Int) * 1)) = ((i * wd + j : Nat) : Int) := by push_cast; lia
      refine ⟨_, _, FB.slot_bytes_getitem.lookup, typeIs_bytes _ _ _, getB ex (by lia) hk ?_⟩
      refine ldF (hL := by rfl) (hk := by rfl) (hl := by rfl) (hd := by rfl) F5 (by k_mem) (wpAny_BinOp (wpAny_BinOp (wpAny_BinOp (ldF (hL := by rfl) (hk := by rfl) (hl := by rfl) (hd := by rfl) F5 (by k_mem) (ldF (hL := by rfl) (hk := by rfl) (hl := by rfl) (hd := by rfl) F5 (by k_mem) (add_int (wpAny_Constant_int (sub_int (ldF (hL := by rfl) (hk := by rfl) (hl := by rfl) (hd := by rfl) F5 (by k_mem) (sub_int ?_)))))))))) 
      have ex2 : (0 + (i : Int) * (wd : Int) + (wd : Int) - 1 - (0 + (j : Int) * 1)) = ((i * wd + (wd - 1 - j) : Nat) : Int) := by push_cast; lia
      refine baSet ex2 g₅ hk2 (by lia) (UInt8.toNat_lt _) fun h₆ g₆ k₆ => ?_
      refine wpAny_execs_nil ?_
      have F6 := F5.off (Off.of_same k₆) (by simpa using hLa) (by intro b hb; rw [List.mem_singleton] at hb; subst hb; exact h0a)
      refine hK2 _ _ ⟨h₆, _, rfl, (k₆.2 I₂ hI₂a).trans j₅, _, F6.less (fun p hp => .tail _ hp), g₆, by simpa using z, (k₆.2 I hIa).trans i₅, ?_, ?_⟩
      · intro i' hi' j' hj'
        rw [Array.getElem?_setIfInBounds_ne (by exact (idx_ne hi' (by lia)).symm)]
        exact q i' hi' j' hj'
      · intro j' hj'
        by_cases e : j' = j
        · subst e
          rw [Array.getElem?_setIfInBounds_self_of_lt hk2]
          simp [hk]
        · rw [Array.getElem?_setIfInBounds_ne (by lia)]
          exact q2 j' (by lia)
    · rintro h' tk E' ⟨c, F, g, z, gi, q, q2⟩
      refine any_tok (s := s) (hp := h') fun tk => wpAny_execs_nil (wpAny_execs_nil (hK _ _ ⟨h', _, rfl, gi, c, F.less (fun p hp => .tail _ hp), g, z, fun i' hi' j hj => ?_⟩))
      by_cases e : i' = i
      · subst e; exact q2 j hj
      · exact q i' (by lia) j hj
  · rintro h' tk E' ⟨c, F, g, z, q⟩
    refine any_tok (s := s) (hp := h') fun tk => wpAny_execs_nil (wpAny_execs_cons (wpAny_Return_some ?_))
    have B4 := B.keeps F.keep
    refine A_call1 (he := by rfl) (f := .type "bytes") (lbui (hk := by rfl) (hl := by rfl) (hd := by rfl) B4.g (mg_bytes _) B4.b (mb_bytes _) ⟨rfl, ?_⟩)
    refine ldF (hL := by rfl) (hk := by rfl) (hl := by rfl) (hd := by rfl) F (by k_mem) ⟨calT, any_weak ok2 (ba_bytesM _ _ _ _ _ (by lia) g _ _ ?_)⟩
    rintro v h'' tk' ⟨t', rfl, k⟩
    exact h _ _ _ _ (fun b o e => k b o (F.keep b o e)) z q
end Mine
end
section
open PySem PySem.W PySem.W.X PySem.W.XRun PyProof.Rows PySem.Calls
set_option Elab.async false
set_option maxRecDepth 100000
namespace Mine
theorem Fm.base {h₀ h₁ h : Heap} {L : Addr} {bs : List (Str × Value)} (F : Fm h₀ h L bs) (k : Kp h₁ h₀) (z : h₁.objs.size ≤ h₀.objs.size) : Fm h₁ h L bs :=
  let ⟨m, f, q⟩ := F; ⟨m, ⟨f.ns, fun b o e => f.keep b o (k b o e), Nat.le_trans z f.above⟩, q⟩
theorem A_def {prog : Program} {w : World} {A : Around} {E : Value → Shared → Prop} {Q : Value → Shared → Prop} {s : Shared} {fd : FuncData} {body : List Stmt}
    {a : Addr} {o : Obj} {args : List Value} (binds : List (Str × Value)) (hroom : A.depth ≤ 450) (ho : s.heap.get? a = some o) (hdata : o.data = .func fd) (hlim : s.heap.NoLimit) (hcd : s.heap.CodeRec fd.code fd.qualname)
    (hbody : fd.body = .stmts body) (hbind : BindsTo s fd ⟨args, []⟩ binds) (hnd : (binds.reverse.map (·.1)).Nodup) (hloc : ∀ x ∈ binds, fd.scope.names.lookup x.1 = some .local)
    (h : ∀ A' h₁ L tk, (A'.handled = A.handled ∧ A'.depth = A.depth + 1 ∧ A'.units = A.units + 3) → L = s.heap.objs.size → Fm s.heap h₁ L binds →
      wpAny (model prog w) A' (execs body (callEnv fd L a)) (fun f s' => Q (match f with | .ret v => v | _ => .none) s') (fun _ _ => False) { s with heap := h₁, toks := tk })
    (hco : fd.scope.isCoroutine = false) (hgen : fd.scope.isGenerator = false) (hk : fd.scope.kind = .function)
    (hcell : ∀ x ∈ fd.scope.names, x.2 ≠ .cell) : wpAny (model prog w) A (call (.ref a) args) Q E s := by
  refine wpAny_call (codeAny_call_def (by show A.depth < 1000; omega) ho hdata hlim hcd hbody hbind hcell hloc (fun h₀ hns hk => ?_) hco hgen hk)
  refine wpAny_mono (h _ h₀ _ _ ⟨rfl, rfl, rfl⟩ rfl (Fm.of ⟨hns, hk, Nat.le_refl _⟩ hnd)) (fun _ _ q => q) (fun _ _ e => e.elim)
theorem call_iter {prog : Program} {w : World} {A : Around} {E : Value → Shared → Prop} {s : Shared} {x : Value} {Q : Value → Shared → Prop} (h : wpAny (model prog w) A.in1 (pyIter x) Q E s) :
    wpAny (model prog w) A (call (.builtin "iter") [x]) Q E s := by
  refine call_function_entry (by decide +kernel) (by decide +kernel) kdk_entry_iter (kdk_args_iter _) ?_
  unfold Builtin.«iter»
  refine wpAny_bind (m := someArgs "iter" 1 2 _) (wpAny_of_eq (a := [x]) (by first | rfl | kernel_rfl!) ?_)
  show wpAny _ _ (pyIter x >>= _) _ _ _
  exact wpAny_bind (wpAny_mono h (fun v s' q => wpAny_pure ⟨_, rfl, q⟩) fun _ _ e => e)
theorem mb_iter (P : Params) : mb P N.n_iter = some (.builtin "iter") := by kernel_rfl
theorem mg_iter (P : Params) : mg P N.n_iter = none := by kernel_rfl
theorem mg_missing (P : Params) : mg P N.n_initial_missing = some (.ref 29) := by kernel_rfl
noncomputable def Alive (h h' : Heap) : Prop := ∀ b o, h.get? b = some o → ∃ o', h'.get? b = some o'
theorem Alive.of_kp {h h' : Heap} (k : Kp h h') : Alive h h' := fun b o e => ⟨o, k b o e⟩
theorem Alive.of_same {h h' : Heap} {L : Addr} {bs : List (Str × Value)} {h₀ : Heap} (k : Heap.SameBut L h h') (F : Fm h₀ h' L bs) : Alive h h' := fun b o e => by
  by_cases q : b = L
  · subst q; obtain ⟨m, ⟨⟨o, _, _, ho, _⟩, _, _⟩, _⟩ := F; exact ⟨o, ho⟩
  · exact ⟨o, (k.2 b q).trans e⟩
theorem Alive.trans {h h' h'' : Heap} (k : Alive h h') (k' : Alive h' h'') : Alive h h'' := fun b o e => let ⟨o', e'⟩ := k b o e; k' b o' e'
structure Wk (prog : Program) (w : World) (A : Around) (I : Addr) (fp wr : List Addr) (n : Nat) (P : Nat → Value → Heap → Heap → Prop) (St : Nat → Heap → Prop) : Prop where
  sub : ∀ b ∈ wr, b ∈ fp
  frame : ∀ i h h', St i h → (∀ b ∈ fp, ∀ o, h.get? b = some o → h'.get? b = some o) → Alive h h' → St i h'
  item : ∀ i (s : Shared) (Q : Option Value → Shared → Prop) (E : Value → Shared → Prop), i < n → St i s.heap →
    (∀ v h' tk, P i v s.heap h' → St (i + 1) h' → Off wr s.heap h' → Q (some v) { s with heap := h', toks := tk }) → wpAny (model prog w) A (pyNext (.ref I)) Q E s
  done : ∀ (s : Shared) (Q : Option Value → Shared → Prop) (E : Value → Shared → Prop), St n s.heap →
    (∀ h' tk, Off wr s.heap h' → Q none { s with heap := h', toks := tk }) → wpAny (model prog w) A (pyNext (.ref I)) Q E s
  self : ∀ i (s : Shared) (Q : Value → Shared → Prop) (E : Value → Shared → Prop), St i s.heap → Q (.ref I) s → wpAny (model prog w) A (pyIter (.ref I)) Q E s
theorem Wk.of {prog : Program} {w : World} {A : Around} {I : Addr} {fp wr : List Addr} {n : Nat} {P : Nat → Value → Prop} {St : Nat → Heap → Prop} (W : Walks prog w A I fp wr n P St) : Wk prog w A I fp wr n (fun i v _ _ => P i v) St :=
  ⟨W.sub, fun i h h' st k _ => W.frame i h h' st k, fun i s Q E hi st h => W.item i s Q E hi st h, fun s Q E st h => W.done s Q E st h, W.self⟩
theorem forK {prog : Program} {w : World} {A : Around} {s : Shared} {env : Env} {target : Expr} {body orelse : List Stmt} {I : Addr} {fp wr : List Addr} {n : Nat} {P : Nat → Value → Heap → Heap → Prop} {St J : Nat → Heap → Prop} {Q : Flow → Shared → Prop} {E : Value → Shared → Prop}
    (W : Wk prog w A I fp wr n P St) (hst : St 0 s.heap) (hJ : J 0 s.heap)
    (hwr : ∀ i h h', J i h → Off wr h h' → J i h')
    (turn : ∀ i v g h tk E', i < n → P i v g h → J i g → St (i + 1) h → J i h → wpAny (model prog w) A (letOwnedTupleGo target (.ref I) v) (fun _ s₁ => wpAny (model prog w) A (assign target env v) (fun _ s₂ => wpAny (model prog w) A (execs body env) (fun f s₃ => match f with
      | .next | .cont => ∃ h' tk', s₃ = { s with heap := h', toks := tk' } ∧ St (i + 1) h' ∧ J (i + 1) h'
      | .brk => Q .next s₃
      | .ret v => Q (.ret v) s₃) E' s₂) E' s₁) E' { s with heap := h, toks := tk })
    (done : ∀ h tk E', J n h → wpAny (model prog w) A (execs orelse env) Q E' { s with heap := h, toks := tk }) :
    codeAny (model prog w) A (.forLoop target (.ref I) body orelse env) (fun r s' => match r with | .ok f => Q f s' | .error e => E e s') s := by
  refine codeAny_forLoop_any (fun k s' => ∃ h' tk i, s' = { s with heap := h', toks := tk } ∧ St i h' ∧ J i h' ∧ i ≤ n ∧ k = n - i) ?_ n ⟨s.heap, s.toks, 0, rfl, hst, hJ, Nat.zero_le _, rfl⟩
  rintro k s' ⟨h', tk, i, rfl, hst', hJ', hi, rfl⟩
  by_cases hlt : i < n
  · refine W.item i _ _ _ hlt hst' fun v h₁ tk₁ hP hst₁ hk₁ => ?_
    refine wpAny_mono (turn i v _ h₁ tk₁ _ hlt hP hJ' hst₁ (hwr _ _ _ hJ' hk₁)) (fun _ s₁ h₁ => wpAny_mono h₁ (fun _ s₂ h₂ => wpAny_mono h₂ (fun f s₃ h₃ => ?_) fun _ _ e => e) fun _ _ e => e) fun _ _ e => e
    cases f with
    | next => obtain ⟨h', tk', e, a, b⟩ := h₃; exact ⟨n - (i + 1), by omega, h', tk', i + 1, e, a, b, hlt, rfl⟩
    | cont => obtain ⟨h', tk', e, a, b⟩ := h₃; exact ⟨n - (i + 1), by omega, h', tk', i + 1, e, a, b, hlt, rfl⟩
    | brk => exact h₃
    | ret v => exact h₃
  · have : i = n := by omega
    subst this
    refine W.done _ _ _ hst' fun h₁ tk₁ hk₁ => ?_
    exact done h₁ tk₁ _ (hwr _ _ _ hJ' hk₁)
end Mine
end
section
open PySem PySem.W PySem.W.X PySem.W.XRun PyProof.Rows PySem.Calls
set_option Elab.async false
set_option maxRecDepth 100000
namespace Mine
theorem fm_ns {h : Heap} {C : Addr} {m : Str → Option Value} (hn : h.Ns C m) : Fm {} h C [] :=
  ⟨m, ⟨hn, fun b o e => by simp [Heap.get?] at e, Nat.zero_le _⟩, fun p hp => by cases hp⟩
section
variable {prog : Program} {w : World} {A : Around} {R : Result → Shared → Prop} {s : Shared}
theorem compTurns {gens : List Comprehension} {scope : Scope} {pos : Pos} {d : Nat} {elt : Expr} {x : Str} {px ip : Pos} {I C D : Addr} {cenv : Env} {fp wr ow : List Addr} {n : Nat} {P : Nat → Value → Prop} {St : Nat → Heap → Prop} {J : List Value → Heap → Prop} {bs : List (Str × Value)} {y0 : List Value}
    (heq : compTurn (.ListComp elt gens scope pos) d (.ref I) (.ref D) cenv = (standAt ip >>= fun _ => pyNext (.ref I) >>= fun r => match r with
      | none => pure (.done .next)
      | some v => letOwnedTupleGo (.Name x px) (.ref I) v >>= fun _ => assign (.Name x px) cenv v >>= fun _ =>
        (eval elt cenv >>= fun x => call (.builtin "list.append") [.ref D, x] >>= fun _ => pure ()) >>= fun _ => again (.compLoop (.ListComp elt gens scope pos) d (.ref I) (.ref D) cenv)))
    (W : Walks prog w A I fp wr n P St) (hsz : y0.length + n ≤ 1000)
    (hC : cenv.locals = C) (hk : cenv.scope.kind = .function) (hx : cenv.kindOf x = some .local) (hCD : C ≠ D) (hCf : C ∉ fp) (hDf : D ∉ fp) (hCo : C ∉ ow) (hDo : D ∉ ow) (hfo : ∀ b ∈ fp, b ∉ ow)
    (F0 : Fm {} s.heap C bs) (hbx : ∀ p ∈ bs, p.1 ≠ x) (g0 : s.heap.PlainList D y0.toArray) (st0 : St 0 s.heap) (J0 : J y0 s.heap)
    (hJ : ∀ ys h h', J ys h → Off (C :: D :: wr) h h' → J ys h')
    (helt : ∀ i ys v (s' : Shared) E', i < n → ys.length = y0.length + i → P i v → Fm {} s'.heap C ((x, v) :: bs) → St (i + 1) s'.heap → s'.heap.PlainList D ys.toArray → J ys s'.heap → Off (C :: D :: wr ++ ow) s.heap s'.heap →
      wpAny (model prog w) A (eval elt cenv) (fun y s'' => ∃ h' tk, s'' = { s' with heap := h', toks := tk } ∧ Off ow s'.heap h' ∧ J (ys ++ [y]) h') E' s')
    (hR : ∀ ys h' tk, ys.length = y0.length + n → h'.PlainList D ys.toArray → Fm {} h' C bs → J ys h' → Off (C :: D :: wr ++ ow) s.heap h' → R (.ok .next) { s with heap := h', toks := tk }) :
    codeAny (model prog w) A (.compLoop (.ListComp elt gens scope pos) d (.ref I) (.ref D) cenv) R s := by
  subst hC
  have hsub := W.sub
  have hCw : cenv.locals ∉ wr := fun q => hCf (hsub _ q)
  have hDw : D ∉ wr := fun q => hDf (hsub _ q)
  refine codeAny_loop rfl (fun k s' => ∃ h' tk i ys, s' = { s with heap := h', toks := tk } ∧ ys.length = y0.length + i ∧ i ≤ n ∧ k = n - i ∧ h'.PlainList D ys.toArray ∧ Fm {} h' cenv.locals bs ∧ St i h' ∧ J ys h' ∧ Off (cenv.locals :: D :: wr ++ ow) s.heap h') ?_ n
    ⟨s.heap, s.toks, 0, y0, rfl, rfl, Nat.zero_le _, rfl, g0, F0, st0, J0, fun _ _ _ q => q⟩
  rintro k s' ⟨h', tk, i, ys, rfl, hl, hi, rfl, g, F, st, j, off⟩
  show wpAny _ A ((compTurn (.ListComp elt gens scope pos) d (.ref I) (.ref D) cenv).onRaise (fun x => do noteFrame x cenv; theTreesLotGoes x)) _ _ _
  refine wpAny_noted (absQ fun K hK => ?_)
  rw [heq]
  refine wpAny_bind (wpAny_standAt (wpAny_bind ?_))
  by_cases hlt : i < n
  · refine W.item i _ _ _ hlt st fun v h₁ tk₁ hP st₁ k₁ => any_tok (s := s) (hp := h₁) fun tk₁ => ?_
    refine wpAny_bind (wpAny_of_eq rfl ?_)
    have F₁ : Fm {} h₁ cenv.locals bs := F.off k₁ hCw (fun b _ => by simp [Heap.get?])
    refine wpAny_bind (wpAny_assign_Name (stF ((x, v) :: bs) F₁ ?_ (fun h₂ F₂ k₂ => ?_) rfl hk hx))
    · rw [List.filter_eq_self.mpr fun p hp => by simpa using hbx p hp]
    have st₂ : St (i + 1) h₂ := W.frame _ _ _ st₁ fun b hb o q => (k₂.2 b (fun e => hCf (e ▸ hb))).trans q
    have off₂ : ∀ b o, b ≠ cenv.locals → b ∉ wr → h'.get? b = some o → h₂.get? b = some o := fun b o h1 h2 q => (k₂.2 b h1).trans (k₁ b o h2 q)
    have j₂ : J ys h₂ := hJ _ _ _ j fun b o hb q => by
      simp only [List.mem_cons, not_or] at hb
      exact off₂ b o hb.1 hb.2.2 q
    obtain ⟨ep, gD⟩ := g
    have gD₂ := off₂ D _ (Ne.symm hCD) hDw gD
    have o₂ : Off (cenv.locals :: D :: wr ++ ow) s.heap h₂ := fun b o hb q => by
      have hb' := hb
      simp only [List.cons_append, List.mem_cons, List.mem_append, not_or] at hb'
      exact off₂ b o hb'.1 hb'.2.2.1 (off b o hb q)
    refine wpAny_bind (wpAny_bind (wpAny_mono (helt i ys v { s with heap := h₂, toks := _ } _ hlt hl hP F₂ st₂ ⟨ep, gD₂⟩ j₂ o₂) (fun y s₃ h₃ => ?_) fun _ _ e => e))
    obtain ⟨h₃, tk₃, rfl, k₃, j₃⟩ := h₃
    refine wpAny_bind (wpAny_list_append_plain (hsz := by rw [List.size_toArray, sizeLine_eq]; lia) ⟨ep, k₃ _ _ hDo gD₂⟩ fun h₄ g₄ k₄ => ?_)
    refine wpAny_pure (wpAny_pure (hK _ _ ⟨rfl, n - (i + 1), by lia, h₄, tk₃, i + 1, ys ++ [y], rfl, by simp [hl]; lia, hlt, rfl, by simpa using g₄, ?_, ?_, ?_, ?_⟩))
    · exact ((F₂.less fun p hp => .tail _ hp).off k₃ hCo (fun b _ => by simp [Heap.get?])).off (Off.of_same k₄) (by simpa using hCD) (fun b _ => by simp [Heap.get?])
    · exact W.frame _ _ _ st₂ fun b hb o q => (k₄.2 b (fun e => hDf (e ▸ hb))).trans (k₃ b o (hfo b hb) q)
    · exact hJ _ _ _ j₃ fun b o hb q => (k₄.2 b (fun e => hb (by simp [e]))).trans q
    · intro b o hb q
      have hb' := hb
      simp only [List.cons_append, List.mem_cons, List.mem_append, not_or] at hb'
      exact (k₄.2 b hb'.2.1).trans (k₃ b o hb'.2.2.2 (o₂ b o hb q))
  · obtain rfl : i = n := by lia
    refine W.done _ _ _ st fun h₁ tk₁ k₁ => ?_
    refine wpAny_pure <| hK _ _ (hR ys h₁ tk₁ hl (g.at fun o q => k₁ _ o hDw q) (F.off k₁ hCw (fun b _ => by simp [Heap.get?])) (hJ _ _ _ j fun b o hb q => k₁ b o (fun e => hb (by simp [e])) q) fun b o hb q => ?_)
    have hb' := hb
    simp only [List.cons_append, List.mem_cons, List.mem_append, not_or] at hb'
    exact k₁ b o hb'.2.2.1 (off b o hb q)
end
end Mine
end
section
open PySem PySem.W PySem.W.X PySem.W.XRun PyProof.Rows PySem.Calls
set_option Elab.async false
set_option maxRecDepth 100000
namespace Mine
theorem gone_ge {h : Heap} {a : Addr} (e : h.objs.size ≤ a) : h.get? a = none := by
  cases q : h.get? a with
  | none => rfl
  | some o => exact absurd (Heap.lt_size q) (Nat.not_lt.mpr e)
section
variable {prog : Program} {w : World} {A : Around} {E : Value → Shared → Prop} {s : Shared} {env : Env}
theorem compBlock {elt iter : Expr} {x : Str} {px : Pos} {scope : Scope} {cl : List (Str × Addr)} {pos : Pos} {s₂ : Shared} {I : Addr} {fp wr ow : List Addr} {n : Nat} {P : Nat → Value → Prop} {St : Nat → Heap → Prop}
    {J : Addr → Addr → List Value → Heap → Prop} {RR : Value → Addr → Result → Shared → Prop} (W : Walks prog w A I fp wr n P St) (hsz : n ≤ 1000)
    (hcell : ∀ y ∈ scope.names, y.2 ≠ .cell) (hkind : scope.kind = .function) (hx : scope.names.lookup x = some .local) (hst : St 0 s₂.heap) (hfp : ∀ b ∈ fp, b < s₂.heap.objs.size) (how : ∀ b ∈ ow, b < s₂.heap.objs.size) (hfo : ∀ b ∈ fp, b ∉ ow)
    (J0 : ∀ C D h, s₂.heap.get? C = none → s₂.heap.get? D = none → Kp s₂.heap h → J C D [] h)
    (hJ : ∀ C D ys h h', J C D ys h → Off (C :: D :: wr) h h' → J C D ys h')
    (helt : ∀ C D i ys v (s' : Shared) E', s₂.heap.get? C = none → s₂.heap.get? D = none → i < n → ys.length = i → P i v → Fm {} s'.heap C [(x, v)] → St (i + 1) s'.heap → s'.heap.PlainList D ys.toArray → J C D ys s'.heap → Off (wr ++ ow) s₂.heap s'.heap →
      wpAny (model prog w) A (eval elt (compEnvC scope cl C env)) (fun y s'' => ∃ h' tk, s'' = { s' with heap := h', toks := tk } ∧ Off ow s'.heap h' ∧ J C D (ys ++ [y]) h') E' s')
    (hRR : ∀ C D ys h' tk, s₂.heap.get? C = none → s₂.heap.get? D = none → D ≠ C → ys.length = n → h'.PlainList D ys.toArray → (∃ m, h'.Ns C m) → J C D ys h' → Off (wr ++ ow) s₂.heap h' → RR (.ref D) C (.ok .next) { s₂ with heap := h', toks := tk }) :
    wpAny (model prog w) A (newList []) (fun acc s₃ => wpAny (model prog w) A (newFunctionEnv scope env.globals cl [] env.qual none .none (some env)) (fun cenv s₄ =>
      codeAny (model prog w) A (.compStart (.ListComp elt [⟨.Name x px, iter, [], 0⟩] scope pos) 0 (.ref I) acc { cenv with scope := relabel scope env }) (RR acc cenv.locals) s₄) E s₃) E s₂ := by
  refine wpAny_newObj_type (wpAny_newFunctionEnv hcell (by intro y hy; simp at hy) (fun h₁ hns₁ hsb₁ => ?_) hkind)
  dsimp only at hns₁ hsb₁ ⊢
  generalize hH2 : s₂.heap.push { cls := .type "list", dict := none, data := .seq ([] : List Value).toArray } = H2 at hns₁ hsb₁ ⊢
  have hC : H2.objs.size = s₂.heap.objs.size + 1 := by rw [← hH2, Heap.size_push]
  generalize hCC : H2.objs.size = C at hns₁ hsb₁ hC ⊢
  generalize hDD : s₂.heap.objs.size = D at hC ⊢
  have hCD : C ≠ D := by rw [hC]; exact Nat.succ_ne_self _
  have nC : s₂.heap.get? C = none := gone_ge (by rw [hDD, hC]; exact Nat.le_succ _)
  have nD : s₂.heap.get? D = none := gone_ge (by rw [hDD]; exact Nat.le_refl _)
  have lt_ne : ∀ b, b < s₂.heap.objs.size → b ≠ C ∧ b ≠ D := fun b hb => ⟨by rw [hC, ← hDD]; exact Nat.ne_of_lt (Nat.lt_succ_of_lt hb), by rw [← hDD]; exact Nat.ne_of_lt hb⟩
  have old : Kp s₂.heap h₁ := fun b o e => hsb₁.extBut b o (lt_ne b (Heap.lt_size e)).1 (Heap.get?_push_of_some _ (hH2 ▸ Heap.get?_push_of_some _ e))
  have gD : h₁.PlainList D ([] : List Value).toArray := ⟨_, hsb₁.extBut _ _ (Ne.symm hCD) (Heap.get?_push_of_some _ (by rw [← hH2, ← hDD]; exact Heap.get?_push_size _ rfl))⟩
  have st₁ : St 0 h₁ := W.frame _ _ _ hst fun b _ o e => old b o e
  have hCf : C ∉ fp := fun q => (lt_ne _ (hfp _ q)).1 rfl
  have hDf : D ∉ fp := fun q => (lt_ne _ (hfp _ q)).2 rfl
  have hCo : C ∉ ow := fun q => (lt_ne _ (how _ q)).1 rfl
  have hDo : D ∉ ow := fun q => (lt_ne _ (how _ q)).2 rfl
  have off2 : ∀ {h'}, Off (C :: D :: wr ++ ow) h₁ h' → Off (wr ++ ow) s₂.heap h' := fun k b o hb e => k b o (by
    have := lt_ne b (Heap.lt_size e)
    simp only [List.cons_append, List.mem_cons, not_or]
    exact ⟨this.1, this.2, hb⟩) (old b o e)
  have loop : ∀ s₃ : Shared, s₃ = { s₂ with heap := h₁, toks := s₂.toks + ([] : List (Str × Value)).length } →
      codeAny (model prog w) A (.compLoop (.ListComp elt [⟨.Name x px, iter, [], 0⟩] scope pos) 0 (.ref I) (.ref D) (compEnvC scope cl C env)) (RR (.ref D) C) s₃ := by
    rintro s₃ rfl
    refine compTurns (P := P) (C := C) (fp := fp) (ow := ow) (J := J C D) (bs := []) (y0 := []) (ip := iter.pos) (px := px) (elt := elt) (x := x) rfl W (by simpa using hsz) rfl hkind (lookup_relabel_local hx) hCD hCf hDf hCo hDo hfo (fm_ns hns₁) (by simp) gD st₁ (J0 C D h₁ nC nD old) (hJ C D) ?_ ?_
    · intro i ys v s' E' hi hl hP F st gD' j off
      exact helt C D i ys v s' E' nC nD hi (by simpa using hl) hP F st gD' j (off2 off)
    · intro ys h' tk hl g F j off
      exact hRR C D ys h' tk nC nD (Ne.symm hCD) (by simpa using hl) g (let ⟨m, f, _⟩ := F; ⟨m, f.ns⟩) j (off2 off)
  exact codeAny_compStart_list (loop _ rfl) (W.self 0 _ _ _ st₁ (loop _ rfl))
structure CSrc (prog : Program) (w : World) (A : Around) (env : Env) (elt : Expr) (x : Str) (scope : Scope) (cl : List (Str × Addr)) (ow : List Addr) (J : Addr → Addr → List Value → Heap → Prop) (n : Nat) (it : Value) (s₂ : Shared) (wr : List Addr) : Prop where
  src : ∃ I fp P St, it = .ref I ∧ Walks prog w A I fp wr n P St ∧ n ≤ 1000 ∧ St 0 s₂.heap ∧ (∀ b ∈ fp, b < s₂.heap.objs.size) ∧ (∀ b ∈ fp, b ∉ ow) ∧
    ∀ C D i ys v (s' : Shared) E', s₂.heap.get? C = none → s₂.heap.get? D = none → i < n → ys.length = i → P i v → Fm {} s'.heap C [(x, v)] → St (i + 1) s'.heap → s'.heap.PlainList D ys.toArray → J C D ys s'.heap → Off (wr ++ ow) s₂.heap s'.heap →
      wpAny (model prog w) A (eval elt (compEnvC scope cl C env)) (fun y s'' => ∃ h' tk, s'' = { s' with heap := h', toks := tk } ∧ Off ow s'.heap h' ∧ J C D (ys ++ [y]) h') E' s'
  how : ∀ b ∈ ow, b < s₂.heap.objs.size
  J0 : ∀ C D h, s₂.heap.get? C = none → s₂.heap.get? D = none → Kp s₂.heap h → J C D [] h
  hJ : ∀ C D ys h h', J C D ys h → Off (C :: D :: wr) h h' → J C D ys h'
theorem compE {elt iter : Expr} {x : Str} {px : Pos} {scope : Scope} {cl : List (Str × Addr)} {pos : Pos} {Q : Value → Shared → Prop} (hclos : closureFor scope env = pure cl)
    (h : wpAny (model prog w) A (eval iter env) (fun xv s₁ => wpAny (model prog w) A (pyIter xv) (fun it s₂ => ∃ ow J n wr, CSrc prog w A env elt x scope cl ow J n it s₂ wr ∧
      ∀ C D ys h' tk, s₂.heap.get? D = none → ys.length = n → h'.PlainList D ys.toArray → J C D ys h' → Off (wr ++ ow) s₂.heap h' → Q (.ref D) { s₂ with heap := h', toks := tk }) E s₁) E s)
    (hs : ∀ x, foldedSetIterable iter env x = pure x)
    (hcell : ∀ y ∈ scope.names, y.2 ≠ .cell) (hkind : scope.kind = .function) (hnames : ∀ y ∈ scope.names, y.2 = .local → scope.names.lookup y.1 = some .local) (hx : scope.names.lookup x = some .local) :
    wpAny (model prog w) A (eval (.ListComp elt [⟨.Name x px, iter, [], 0⟩] scope pos) env) Q E s := by
  rw [eval_ListComp]
  refine wpAny_comprehension_free (use := none) rfl hs hclos hkind hnames (wpAny_mono h (fun xv s₁ h₁ => wpAny_mono h₁ (fun it s₂ h₂ => ?_) fun _ _ e => e) fun _ _ e => e)
  obtain ⟨ow, J, n, wr, ⟨⟨I, fp, P, St, rfl, W, hsz, hst, hfp, hfo, helt⟩, how, J0, hJ⟩, hQ⟩ := h₂
  refine compBlock (RR := fun acc C => compPost (model prog w) A E none Q acc C) W hsz hcell hkind hx hst hfp how hfo J0 hJ helt ?_
  rintro C D ys h' tk nC nD hDC hl g ⟨m, hn⟩ j off
  refine ⟨m, hn, fun h'' k => ?_⟩
  refine hQ C D ys h'' tk nD hl (g.at fun o e => (k.2 D hDC).trans e) (hJ _ _ _ _ _ j fun b o hb e => (k.2 b (fun q => hb (by simp [q]))).trans e) fun b o hb e => ?_
  exact (k.2 b (fun q => by subst q; rw [nC] at e; cases e)).trans (off b o hb e)
theorem compA {elt iter : Expr} {x y : Str} {px py : Pos} {scope : Scope} {cl : List (Str × Addr)} {pos spos : Pos} {Q : Flow → Shared → Prop} {L : Addr} (bs' : List (Str × Value)) (hclos : closureFor scope env = pure cl)
    (h : wpAny (model prog w) A (eval iter env) (fun xv s₁ => wpAny (model prog w) A (pyIter xv) (fun it s₂ => ∃ ow J n wr bs, CSrc prog w A env elt x scope cl ow J n it s₂ wr ∧
      Fm {} s₂.heap L bs ∧ L ∉ wr ++ ow ∧ bs' = bs.filter (fun p => !(p.1 == y)) ∧
      ∀ C D ys h₁ h' tk, s₂.heap.get? D = none → ys.length = n → h'.PlainList D ys.toArray → J C D ys h₁ → Off (wr ++ ow) s₂.heap h₁ → Off [L, C] h₁ h' → L ≠ D → Fm {} h' L ((y, .ref D) :: bs') → Off (L :: (wr ++ ow)) s₂.heap h' → Q .next { s₂ with heap := h', toks := tk }) E s₁) E s)
    (hsw : swapsWith (.ListComp elt [⟨.Name x px, iter, [], 0⟩] scope pos) (some (.Name y py)) spos.line env = pure true)
    (hL : env.locals = L) (hk : env.scope.kind = .function) (hy : env.kindOf y = some .local)
    (hs : ∀ x, foldedSetIterable iter env x = pure x)
    (hcell : ∀ y ∈ scope.names, y.2 ≠ .cell) (hkind : scope.kind = .function) (hnames : ∀ y ∈ scope.names, y.2 = .local → scope.names.lookup y.1 = some .local) (hx : scope.names.lookup x = some .local) :
    wpAny (model prog w) A (exec (.Assign [.Name y py] (.ListComp elt [⟨.Name x px, iter, [], 0⟩] scope pos) spos) env) Q E s := by
  rw [exec_Assign_Name_used _ _ _ _ hsw]
  refine wpAny_bind (wpAny_standAt (wpAny_bind ?_))
  show wpAny _ A (do let _ ← comprehension (.ListComp elt [⟨.Name x px, iter, [], 0⟩] scope pos) scope env _ (newList []) false (eval iter env) (some (assign (.Name y py) env))) _ _ s
  refine wpAny_bind (wpAny_mono (wpAny_comprehension_free (use := some (assign (.Name y py) env)) (Q := fun _ s' => Q .next s') rfl hs hclos hkind hnames
    (wpAny_mono h (fun xv s₁ h₁ => wpAny_mono h₁ (fun it s₂ h₂ => ?_) fun _ _ e => e) fun _ _ e => e)) (fun _ s' hq => wpAny_pure (wpAny_pure hq)) fun _ _ e => e)
  obtain ⟨ow, J, n, wr, bs, ⟨⟨I, fp, P, St, rfl, W, hsz, hst, hfp, hfo, helt⟩, how, J0, hJ⟩, F, hLw, rfl, hQ⟩ := h₂
  refine compBlock (RR := fun acc C => compPost (model prog w) A E (some (assign (.Name y py) env)) (fun _ s' => Q .next s') acc C) W hsz hcell hkind hx hst hfp how hfo J0 hJ helt ?_
  rintro C D ys h' tk nC nD hDC hl g ⟨m, hn⟩ j off
  have hLC : L ≠ C := F.ne nC
  have hLD : L ≠ D := F.ne nD
  show wpAny _ A (assign (.Name y py) env (.ref D)) _ _ _
  refine wpAny_assign_Name (stF _ (F.off off hLw fun b _ => by simp [Heap.get?]) rfl (fun h₂ F₂ k₂ => ?_) hL hk hy)
  refine ⟨m, hn.sameBut k₂ (Ne.symm hLC), fun h₃ k₃ => ?_⟩
  have kk : Off [L, C] h' h₃ := fun b o hb e => by
    simp only [List.mem_cons, List.not_mem_nil, or_false, not_or] at hb
    exact (k₃.2 b hb.2).trans ((k₂.2 b hb.1).trans e)
  refine hQ C D ys h' h₃ _ nD hl (g.at fun o e => kk D o (by simp [Ne.symm hLD, hDC]) e) j off kk hLD (F₂.off (Off.of_same k₃) (by simpa using hLC) fun b _ => by simp [Heap.get?]) fun b o hb e => ?_
  simp only [List.mem_cons, not_or] at hb
  exact kk b o (by
    simp only [List.mem_cons, List.not_mem_nil, or_false, not_or]
    exact ⟨hb.1, fun q => by subst q; rw [nC] at e; cases e⟩) (off b o hb.2 e)
end
end Mine
end
section
open PySem PySem.W PySem.W.X PySem.W.XRun PyProof.Rows PySem.Calls
set_option Elab.async false
set_option maxRecDepth 100000
namespace Mine
section
variable {prog : Program} {w : World} {A : Around} {E : Value → Shared → Prop} {s : Shared} {env : Env}
theorem compTurn_two (elt it1 it2 : Expr) (x y : Str) (px py : Pos) (scope : Scope) (pos : Pos) (it acc : Value) (env : Env) :
    compTurn (.ListComp elt [⟨.Name x px, it1, [], 0⟩, ⟨.Name y py, it2, [], 0⟩] scope pos) 0 it acc env = (standAt it1.pos >>= fun _ => pyNext it >>= fun r => match r with
      | none => pure (.done .next)
      | some v => letOwnedTupleGo (.Name x px) it v >>= fun _ => assign (.Name x px) env v >>= fun _ => eval it2 env >>= fun z => standAt it2.pos >>= fun _ => foldedSetIterable it2 env z >>= fun z => holding [z] (pyIter z) >>= fun i2 =>
        runOwn (.compStart (.ListComp elt [⟨.Name x px, it1, [], 0⟩, ⟨.Name y py, it2, [], 0⟩] scope pos) 1 i2 acc env) env >>= fun _ =>
          again (.compLoop (.ListComp elt [⟨.Name x px, it1, [], 0⟩, ⟨.Name y py, it2, [], 0⟩] scope pos) 0 it acc env)) := by rfl
theorem compTurn_in (elt it1 it2 : Expr) (x y : Str) (px py : Pos) (scope : Scope) (pos : Pos) (it acc : Value) (env : Env) :
    compTurn (.ListComp elt [⟨.Name x px, it1, [], 0⟩, ⟨.Name y py, it2, [], 0⟩] scope pos) 1 it acc env = (standAt it2.pos >>= fun _ => pyNext it >>= fun r => match r with
      | none => pure (.done .next)
      | some v => letOwnedTupleGo (.Name y py) it v >>= fun _ => assign (.Name y py) env v >>= fun _ =>
        (eval elt env >>= fun x => call (.builtin "list.append") [acc, x] >>= fun _ => pure ()) >>= fun _ => again (.compLoop (.ListComp elt [⟨.Name x px, it1, [], 0⟩, ⟨.Name y py, it2, [], 0⟩] scope pos) 1 it acc env)) := by rfl
theorem compStart_in {R : Result → Shared → Prop} {elt it1 it2 : Expr} {x y : Str} {px py : Pos} {scope : Scope} {pos : Pos} {it acc : Value} {env : Env}
    (h0 : codeAny (model prog w) A (.compLoop (.ListComp elt [⟨.Name x px, it1, [], 0⟩, ⟨.Name y py, it2, [], 0⟩] scope pos) 1 it acc env) R s)
    (h : ∀ E', wpAny (model prog w) A (pyIter it) (fun it' s' => codeAny (model prog w) A (.compLoop (.ListComp elt [⟨.Name x px, it1, [], 0⟩, ⟨.Name y py, it2, [], 0⟩] scope pos) 1 it' acc env) R s') E' s) :
    codeAny (model prog w) A (.compStart (.ListComp elt [⟨.Name x px, it1, [], 0⟩, ⟨.Name y py, it2, [], 0⟩] scope pos) 1 it acc env) R s := by
  refine codeAny_of_tree ?_
  show wpAny _ _ ((compStart _ 1 it acc env).onRaise (fun x => do noteFrame x env; standAt theWindowsPlace)) _ _ s
  refine wpAny_notedAt ?_
  unfold compStart
  show wpAny _ _ (ask >>= _) _ _ s
  refine wpAny_bind (wpAny_askSetting (wpAny_ite ?_))
  split
  · first
      | exact wpAny_bind (wpAny_pure (wpAny_pure (And.intro rfl h0)))
      | exact wpAny_pure (And.intro rfl h0)
  · refine wpAny_bind (wpAny_rule ?_)
    show wpAny _ _ (standAt it2.pos >>= _) _ _ s
    exact wpAny_bind (wpAny_standAt (wpAny_bind (wpAny_mono (h _) (fun it' s' h' => wpAny_pure (And.intro rfl h')) fun _ _ e => e)))
theorem comp2E {elt it1 it2 : Expr} {x y : Str} {px py : Pos} {scope : Scope} {cl : List (Str × Addr)} {pos : Pos} {Q : Value → Shared → Prop} (hclos : closureFor scope env = pure cl)
    (h : wpAny (model prog w) A (eval it1 env) (fun xv s₁ => wpAny (model prog w) A (pyIter xv) (fun it s₂ => ∃ I fp wr n P St, ∃ m : Nat, ∃ J : List Value → Prop, it = .ref I ∧ Walks prog w A I fp wr n P St ∧ n * m ≤ 1000 ∧ St 0 s₂.heap ∧ (∀ b ∈ fp, b < s₂.heap.objs.size) ∧ J [] ∧
      (∀ C i v (s' : Shared) E', s₂.heap.get? C = none → i < n → P i v → Fm {} s'.heap C [(x, v)] → Off wr s₂.heap s'.heap →
        wpAny (model prog w) A (eval it2 (compEnvC scope cl C env)) (fun xv2 s3 => wpAny (model prog w) A (pyIter xv2) (fun it' s4 => ∃ I2 fp2 wr2 P2 St2 h' tk, it' = .ref I2 ∧ s4 = { s' with heap := h', toks := tk } ∧ Kp s'.heap h' ∧ Walks prog w A I2 fp2 wr2 m P2 St2 ∧ St2 0 h' ∧ (∀ b ∈ fp2, s'.heap.get? b = none) ∧
          ∀ j ys v2 (s5 : Shared) E'', j < m → P2 j v2 → J ys → ys.length = i * m + j → Fm {} s5.heap C [(y, v2), (x, v)] → Off wr s₂.heap s5.heap →
            wpAny (model prog w) A (eval elt (compEnvC scope cl C env)) (fun r s6 => ∃ h tk, s6 = { s5 with heap := h, toks := tk } ∧ Kp s5.heap h ∧ J (ys ++ [r])) E'' s5) E' s3) E' s') ∧
      ∀ D ys h' tk, s₂.heap.get? D = none → ys.length = n * m → h'.PlainList D ys.toArray → J ys → Off wr s₂.heap h' → Q (.ref D) { s₂ with heap := h', toks := tk }) E s₁) E s)
    (hs : ∀ x, foldedSetIterable it1 env x = pure x) (hs2 : ∀ env x, foldedSetIterable it2 env x = pure x) (hxy : x ≠ y)
    (hcell : ∀ y ∈ scope.names, y.2 ≠ .cell) (hkind : scope.kind = .function) (hnames : ∀ y ∈ scope.names, y.2 = .local → scope.names.lookup y.1 = some .local) (hx : scope.names.lookup x = some .local) (hy : scope.names.lookup y = some .local) :
    wpAny (model prog w) A (eval (.ListComp elt [⟨.Name x px, it1, [], 0⟩, ⟨.Name y py, it2, [], 0⟩] scope pos) env) Q E s := by
  rw [eval_ListComp]
  refine wpAny_comprehension_free (use := none) rfl hs hclos hkind hnames (wpAny_mono h (fun xv s₁ h₁ => wpAny_mono h₁ (fun it s₂ h₂ => ?_) fun _ _ e => e) fun _ _ e => e)
  obtain ⟨I, fp, wr, n, P, St, m, J, rfl, W, hsz, hst, hfp, J0, hin, hQ⟩ := h₂
  refine wpAny_newObj_type (wpAny_newFunctionEnv hcell (by intro y hy; simp at hy) (fun h₁ hns₁ hsb₁ => ?_) hkind)
  dsimp only at hns₁ hsb₁ ⊢
  generalize hH2 : s₂.heap.push { cls := .type "list", dict := none, data := .seq ([] : List Value).toArray } = H2 at hns₁ hsb₁ ⊢
  have hC : H2.objs.size = s₂.heap.objs.size + 1 := by rw [← hH2, Heap.size_push]
  generalize hCC : H2.objs.size = C at hns₁ hsb₁ hC ⊢
  generalize hDD : s₂.heap.objs.size = D at hC ⊢
  have hCD : C ≠ D := by rw [hC]; exact Nat.succ_ne_self _
  have nC : s₂.heap.get? C = none := gone_ge (by rw [hDD, hC]; exact Nat.le_succ _)
  have nD : s₂.heap.get? D = none := gone_ge (by rw [hDD]; exact Nat.le_refl _)
  have lt_ne : ∀ b, b < s₂.heap.objs.size → b ≠ C ∧ b ≠ D := fun b hb => ⟨by rw [hC, ← hDD]; exact Nat.ne_of_lt (Nat.lt_succ_of_lt hb), by rw [← hDD]; exact Nat.ne_of_lt hb⟩
  have old : Kp s₂.heap h₁ := fun b o e => hsb₁.extBut b o (lt_ne b (Heap.lt_size e)).1 (Heap.get?_push_of_some _ (hH2 ▸ Heap.get?_push_of_some _ e))
  have gD : h₁.PlainList D ([] : List Value).toArray := ⟨_, hsb₁.extBut _ _ (Ne.symm hCD) (Heap.get?_push_of_some _ (by rw [← hH2, ← hDD]; exact Heap.get?_push_size _ rfl))⟩
  have st₁ : St 0 h₁ := W.frame _ _ _ hst fun b _ o e => old b o e
  have hCf : C ∉ fp := fun q => (lt_ne _ (hfp _ q)).1 rfl
  have hDf : D ∉ fp := fun q => (lt_ne _ (hfp _ q)).2 rfl
  have hCw : C ∉ wr := fun q => hCf (W.sub _ q)
  have hDw : D ∉ wr := fun q => hDf (W.sub _ q)
  have hk' : (compEnvC scope cl C env).scope.kind = .function := hkind
  have loop : ∀ s₃ : Shared, s₃ = { s₂ with heap := h₁, toks := s₂.toks + ([] : List (Str × Value)).length } →
      codeAny (model prog w) A (.compLoop (.ListComp elt [⟨.Name x px, it1, [], 0⟩, ⟨.Name y py, it2, [], 0⟩] scope pos) 0 (.ref I) (.ref D) (compEnvC scope cl C env)) (compPost (model prog w) A E none Q (.ref D) C) s₃ := by
    rintro s₃ rfl
    refine codeAny_loop rfl (fun k s' => ∃ h' tk i ys, s' = { s₂ with heap := h', toks := tk } ∧ ys.length = i * m ∧ i ≤ n ∧ k = n - i ∧ h'.PlainList D ys.toArray ∧ Fm {} h' C [] ∧ St i h' ∧ J ys ∧ Off wr s₂.heap h') ?_ n
      ⟨h₁, _, 0, [], rfl, by simp, Nat.zero_le _, rfl, gD, fm_ns hns₁, st₁, J0, Off.of_kp old⟩
    rintro k s' ⟨h', tk, i, ys, rfl, hl, hi, rfl, g, F, st, j, off⟩
    show wpAny _ A ((compTurn (.ListComp elt [⟨.Name x px, it1, [], 0⟩, ⟨.Name y py, it2, [], 0⟩] scope pos) 0 (.ref I) (.ref D) (compEnvC scope cl C env)).onRaise (fun x => do noteFrame x (compEnvC scope cl C env); theTreesLotGoes x)) _ _ _
    refine wpAny_noted (absQ fun K hK => ?_)
    rw [compTurn_two]
    refine wpAny_bind (wpAny_standAt (wpAny_bind ?_))
    by_cases hlt : i < n
    · refine W.item i _ _ _ hlt st fun v h₁ tk₁ hP st₁ k₁ => any_tok (s := s₂) (hp := h₁) fun tk₁ => ?_
      refine wpAny_bind (wpAny_of_eq rfl ?_)
      have F₁ : Fm {} h₁ C [] := F.off k₁ hCw (fun b _ => by simp [Heap.get?])
      refine wpAny_bind (wpAny_assign_Name (stF [(x, v)] F₁ rfl (fun h₂ F₂ k₂ => ?_) rfl hk' (lookup_relabel_local hx)))
      have st₂ : St (i + 1) h₂ := W.frame _ _ _ st₁ fun b hb o q => (k₂.2 b (fun e => hCf (e ▸ hb))).trans q
      obtain ⟨ep, gD⟩ := g
      have gD₂ := (k₂.2 D (Ne.symm hCD)).trans (k₁ D _ hDw gD)
      have o₂ : Off wr s₂.heap h₂ := fun b o hb q => (k₂.2 b (fun e => by subst e; rw [nC] at q; cases q)).trans (k₁ b o hb (off b o hb q))
      refine wpAny_bind (wpAny_mono (hin C i v { s₂ with heap := h₂, toks := _ } _ nC hlt hP F₂ o₂) (fun xv2 s3 h3 => ?_) fun _ _ e => e)
      refine wpAny_bind (wpAny_standAt (wpAny_bind (wpAny_of_eq (hs2 _ _) (wpAny_bind (wpAny_holding (wpAny_mono h3 (fun it' s4 h4 => ?_) fun _ _ e => e))))))
      obtain ⟨I2, fp2, wr2, P2, St2, h', tk', rfl, rfl, kp', W2, st2', hfp2, helt⟩ := h4
      have hCf2 : C ∉ fp2 := fun q => by obtain ⟨mm, ⟨⟨o, _, _, e, _⟩, _, _⟩, _⟩ := F₂; rw [hfp2 _ q] at e; cases e
      have hDf2 : D ∉ fp2 := fun q => by rw [hfp2 _ q] at gD₂; cases gD₂
      have inner : ∀ (R : Result → Shared → Prop) tk3, (∀ zs h5 tk5, zs.length = (i + 1) * m → h5.PlainList D zs.toArray → Fm {} h5 C [] → St (i + 1) h5 → J zs → Off wr s₂.heap h5 → R (.ok .next) { s₂ with heap := h5, toks := tk5 }) →
          codeAny (model prog w) A (.compLoop (.ListComp elt [⟨.Name x px, it1, [], 0⟩, ⟨.Name y py, it2, [], 0⟩] scope pos) 1 (.ref I2) (.ref D) (compEnvC scope cl C env)) R { s₂ with heap := h', toks := tk3 } := by
        intro R tk3 hR
        have g' : Heap.PlainList h' D ys.toArray := ⟨ep, kp' _ _ gD₂⟩
        have hmul : (i + 1) * m ≤ n * m := Nat.mul_le_mul_right _ hlt
        rw [Nat.succ_mul] at hmul
        refine compTurns (P := P2) (C := C) (fp := fp2) (wr := wr2) (ow := []) (n := m) (St := St2) (J := fun zs _ => J zs) (bs := [(x, v)]) (y0 := ys) (ip := it2.pos) (px := py) (elt := elt) (x := y) (compTurn_in ..) W2 (by rw [hl]; omega) rfl hk' (lookup_relabel_local hy) hCD hCf2 hDf2 (by simp) (by simp) (by simp) (F₂.kp kp') (by simpa using hxy) g' st2' j (fun _ _ _ q _ => q) ?_ ?_
        · intro jj zs v2 s5 E'' hj hz hP2 F5 _ _ j5 off5
          refine wpAny_mono (helt jj zs v2 s5 E'' hj hP2 j5 (by rw [hz, hl]) F5 fun b o hb q => off5 b o ?_ (kp' _ _ (o₂ b o hb q))) (fun r s6 h6 => ?_) fun _ _ e => e
          · have l1 := lt_ne b (Heap.lt_size q)
            simp only [List.cons_append, List.mem_cons, List.append_nil, not_or]
            exact ⟨l1.1, l1.2, fun z => by have := o₂ b o hb q; rw [hfp2 _ (W2.sub _ z)] at this; cases this⟩
          · obtain ⟨hh, tt, e1, e2, e3⟩ := h6
            exact ⟨hh, tt, e1, fun b o _ q => e2 b o q, e3⟩
        · intro zs h5 tk5 hz g5 F5 j5 off5
          have off6 : ∀ b o, b ≠ C → b ≠ D → (∀ z ∈ fp2, b ≠ z) → h'.get? b = some o → h5.get? b = some o := fun b o b1 b2 b3 q => off5 b o (by
            simp only [List.cons_append, List.mem_cons, List.append_nil, not_or]
            exact ⟨b1, b2, fun z => b3 _ (W2.sub _ z) rfl⟩) q
          refine hR zs h5 tk5 (by rw [hz, hl, Nat.succ_mul]) g5 (F5.less (by simp)) ?_ j5 ?_
          · refine W.frame _ _ _ st₂ fun b hb o q => off6 b o (fun e => hCf (e ▸ hb)) (fun e => hDf (e ▸ hb)) (fun z hz e => ?_) (kp' _ _ q)
            subst e; rw [hfp2 _ hz] at q; cases q
          · intro b o hb q
            have l1 := lt_ne b (Heap.lt_size q)
            have := o₂ b o hb q
            exact off6 b o l1.1 l1.2 (fun z hz e => by subst e; rw [hfp2 _ hz] at this; cases this) (kp' _ _ this)
      refine wpAny_bind (wpAny_runOwn (compStart_in (inner _ _ fun zs h5 tk5 a1 a2 a3 a4 a5 a6 => ?_) fun E' => W2.self 0 _ _ _ st2' (inner _ _ fun zs h5 tk5 a1 a2 a3 a4 a5 a6 => ?_)))
      all_goals exact wpAny_pure <| hK _ _ ⟨rfl, n - (i + 1), by omega, h5, tk5, i + 1, zs, rfl, a1, hlt, rfl, a2, a3, a4, a5, a6⟩
    · obtain rfl : i = n := by omega
      refine W.done _ _ _ st fun h₂ tk₂ k₂ => ?_
      obtain ⟨mm, f, _⟩ := F.off k₂ hCw (fun b _ => by simp [Heap.get?])
      refine wpAny_pure (hK _ _ ⟨mm, f.ns, fun h₃ k₃ => ?_⟩)
      refine hQ D ys h₃ tk₂ nD hl (g.at fun o q => (k₃.2 D (Ne.symm hCD)).trans (k₂ _ o hDw q)) j fun b o hb q => ?_
      exact (k₃.2 b (fun e => by subst e; rw [nC] at q; cases q)).trans (k₂ b o hb (off b o hb q))
  exact codeAny_compStart_list (loop _ rfl) (W.self 0 _ _ _ st₁ (loop _ rfl))
end
end Mine
end
section
open PySem PySem.W PySem.W.X PySem.W.XRun PyProof.Rows PySem.Calls
set_option Elab.async false
namespace Mine
noncomputable def Kt {α β : Type} (M : Model) (A : Around) (f : α → Sem β) (Q : β → Shared → Prop) (E : Value → Shared → Prop) (v : α) (s : Shared) : Prop := wpAny M A (f v) Q E s
theorem bindK {α β : Type} {M : Model} {A : Around} {E : Value → Shared → Prop} {s : Shared} {m : Sem α} {f : α → Sem β} {Q : β → Shared → Prop} (h : wpAny M A m (Kt M A f Q E) E s) : wpAny M A (m >>= f) Q E s := wpAny_bind h
theorem kont {α β : Type} {M : Model} {A : Around} {E : Value → Shared → Prop} {s : Shared} {v : α} {f : α → Sem β} {Q : β → Shared → Prop} (h : wpAny M A (f v) Q E s) : Kt M A f Q E v s := h
end Mine
end
section
open PySem PySem.W PySem.W.X PySem.W.XRun PyProof.Rows PySem.Calls
set_option Elab.async false
set_option maxRecDepth 100000
namespace Mine
end Mine
end
section
open PySem
namespace Mine.N
noncomputable abbrev d_module : Str := ⟨#[95, 95, 109, 111, 100, 117, 108, 101, 95, 95]⟩
noncomputable abbrev d_qualname : Str := ⟨#[95, 95, 113, 117, 97, 108, 110, 97, 109, 101, 95, 95]⟩
noncomputable abbrev d_firstlineno : Str := ⟨#[95, 95, 102, 105, 114, 115, 116, 108, 105, 110, 101, 110, 111, 95, 95]⟩
noncomputable abbrev d_slots : Str := ⟨#[95, 95, 115, 108, 111, 116, 115, 95, 95]⟩
noncomputable abbrev d_init : Str := ⟨#[95, 95, 105, 110, 105, 116, 95, 95]⟩
noncomputable abbrev d_lt : Str := ⟨#[95, 95, 108, 116, 95, 95]⟩
noncomputable abbrev d_gt : Str := ⟨#[95, 95, 103, 116, 95, 95]⟩
noncomputable abbrev d_eq : Str := ⟨#[95, 95, 101, 113, 95, 95]⟩
noncomputable abbrev d_le : Str := ⟨#[95, 95, 108, 101, 95, 95]⟩
noncomputable abbrev d_ge : Str := ⟨#[95, 95, 103, 101, 95, 95]⟩
noncomputable abbrev d_hash : Str := ⟨#[95, 95, 104, 97, 115, 104, 95, 95]⟩
noncomputable abbrev d_static_attributes : Str := ⟨#[95, 95, 115, 116, 97, 116, 105, 99, 95, 97, 116, 116, 114, 105, 98, 117, 116, 101, 115, 95, 95]⟩
noncomputable abbrev d_obj : Str := ⟨#[111, 98, 106]⟩
noncomputable abbrev d_doc : Str := ⟨#[95, 95, 100, 111, 99, 95, 95]⟩
noncomputable abbrev d_K : Str := ⟨#[75]⟩
end Mine.N
end
section
open PySem PySem.W PySem.W.X PySem.W.XRun PyProof.Rows PySem.Calls
set_option Elab.async false
set_option maxRecDepth 100000
namespace Mine
theorem ty_sub_tt : isSubtype (.type "type") (.type "type") = pure true := by rw [isSubtype_type]; kernel_rfl
theorem ty_sub_oo : isSubtype (.type "object") (.type "object") = pure true := by rw [isSubtype_type]; kernel_rfl
theorem ty_sub_tup : isSubtype (.type "tuple") (.type "tuple") = pure true := by rw [isSubtype_type]; kernel_rfl
theorem ty_sub_dict : isSubtype (.type "dict") (.type "dict") = pure true := by rw [isSubtype_type]; kernel_rfl
theorem ty_meta : ((Manifest.find? "object").elim "type" fun x => x.metatype) = "type" := by decide +kernel
theorem ty_sub_m : isSubtype (.type "type") (.type ((Manifest.find? "object").elim "type" fun x => x.metatype)) = pure true := by rw [ty_meta]; exact ty_sub_tt
theorem ty_dict_iter : typeLookup (.type "dict") "__iter__" = pure (some (.builtin "dict.__iter__")) := by rw [typeLookup_type, builtinLookup_eq_fast]; kernel_rfl
structure KIn where
  (h1 h2 h3 h4 h5 h6 h7 h8 h9 h10 h11 h12 : Int)
  (t1 t2 t3 t4 t5 t6 t7 t8 t9 t10 t11 t12 : Tok)
  (v1 v3 v12 : Value) (q : Str) (tq : Tok) (n : Nat)
  (sl f1 f2 f3 f4 f5 f6 : Addr)
noncomputable abbrev kEs (k : KIn) : Array DictEntry := #[⟨k.h1, .str N.d_module k.t1, k.v1⟩, ⟨k.h2, .str N.d_qualname k.t2, .str k.q k.tq⟩, ⟨k.h3, .str N.d_firstlineno k.t3, k.v3⟩, ⟨k.h4, .str N.d_slots k.t4, .ref k.sl⟩,
  ⟨k.h5, .str N.d_init k.t5, .ref k.f1⟩, ⟨k.h6, .str N.d_lt k.t6, .ref k.f2⟩, ⟨k.h7, .str N.d_gt k.t7, .ref k.f3⟩, ⟨k.h8, .str N.d_eq k.t8, .ref k.f4⟩, ⟨k.h9, .str N.d_le k.t9, .ref k.f5⟩, ⟨k.h10, .str N.d_ge k.t10, .ref k.f6⟩,
  ⟨k.h11, .str N.d_hash k.t11, .none⟩, ⟨k.h12, .str N.d_static_attributes k.t12, k.v12⟩]
end Mine
end
section
open PySem PySem.W PySem.W.X PySem.W.XRun PyProof.Rows PySem.Calls
set_option Elab.async false
set_option maxRecDepth 100000
namespace Mine
section

set_option maxHeartbeats 0 in
theorem collectM (prog : Program) (w : World) (s : Shared) (a : Addr) (t : Tok) (n : Nat) (ha : s.heap.get? a = some ⟨.type "list", none, .seq #[.str N.d_obj t] n, #[]⟩) (Q : Value → Shared → Prop) (E : Value → Shared → Prop)
    (hQ : Ret Q s fun v h' => ∃ b m, v = .ref b ∧ h'.get? b = some ⟨.type "list", none, .seq #[.str N.d_obj t] m, #[]⟩ ∧ Kp s.heap h') :
    wpAny (model prog w) AM (runValue (.builtin "proto.collect" ⟨[.ref a], []⟩)) Q E s := by
  have hX := ret1 (o := ⟨.type "list", none, .seq #[.str N.d_obj t] 1, #[]⟩) hQ fun a _ e _ k => ⟨a, _, rfl, e, k⟩
  x_run
end
end Mine
end
section
open PySem PySem.W PySem.W.X PySem.W.XRun PyProof.Rows PySem.Calls
set_option Elab.async false
set_option maxRecDepth 100000
namespace Mine
theorem ty_obj_weak : typeLookup (.type "object") "__weakref__" = pure none := by rw [typeLookup_type, builtinLookup_eq_fast]; kernel_rfl
theorem kfind (k : KIn) : (kEs k).find? (fun x => x.key.isStr (Str.ofString "__slots__")) = some ⟨k.h4, .str N.d_slots k.t4, .ref k.sl⟩ := by rfl
theorem id_obj : Builtin.Slots.isIdentifier N.d_obj = some true := by decide +kernel
theorem mg_obj : Builtin.Slots.mangle N.d_K N.d_obj = N.d_obj := by decide +kernel
theorem collectL {prog : Program} {w : World} {A : Around} {s : Shared} {a : Addr} {t : Tok} {n : Nat} {Q : List Value → Shared → Prop} {E : Value → Shared → Prop} (ok : AOk A)
   (ha : s.heap.get? a = some ⟨.type "list", none, .seq #[.str N.d_obj t] n, #[]⟩)
   (h : ∀ h' tk, Kp s.heap h' → Q [.str N.d_obj t] { s with heap := h', toks := tk }) :
   wpAny (model prog w) A (collect (.ref a)) Q E s := by
  unfold collect
  refine wpAny_bind (any_weak ok (collectM prog w s a t n ha _ _ ?_))
  rintro v h' tk ⟨b, m, rfl, hb, kp⟩
  refine wpAny_bind (wpAny_load hb (wpAny_pure ?_))
  exact h h' tk kp
set_option maxHeartbeats 4000000 in
theorem slots_read {prog : Program} {w : World} {A : Around} {s : Shared} {k : KIn} {to : Tok} {no : Nat} {Q : Builtin.Slots.Plan → Shared → Prop} {E : Value → Shared → Prop} (ok : AOk A)
   (hl : s.heap.get? k.sl = some ⟨.type "list", none, .seq #[.str N.d_obj to] no, #[]⟩)
   (h : ∀ h' tk, Kp s.heap h' → Q { names := [N.d_obj], dict := false, weak := false, inherited := [] } { s with heap := h', toks := tk }) :
   wpAny (model prog w) A (Builtin.Slots.read N.d_K [.type "object"] (kEs k)) Q E s := by
  have e1 := ty_obj_weak
  have e2 := ty_sub_oo
  have hT : s.TypeIs (.ref k.sl) "list" := ⟨_, hl, rfl⟩
  unfold Builtin.Slots.read
  rw [kfind]
  repeat (any_goals (first | assumption | (with_reducible refine collectL ok hl ?_) | wp_step | ((with_reducible apply wpAny_ite_false); focus (kernel_rfl; done))))
  intro h' tk kp
  repeat (any_goals (first | assumption | exact h _ _ kp | rw [id_obj] | rw [mg_obj] | wp_step | ((with_reducible apply wpAny_ite_false); focus (kernel_rfl; done))))
end Mine
end
section
open PySem PySem.W PySem.W.X PySem.W.XRun PyProof.Rows PySem.Calls
set_option Elab.async false
set_option maxRecDepth 100000
namespace Mine
section
variable {M : Model} {A : Around} {E : Value → Shared → Prop} {s : Shared} {a : Addr} {o : Obj} {name : Str}
theorem absH {α : Type} {t : Sem α} {Q : α → Shared → Prop} (R : Heap → Prop) (hR : R s.heap) (h : ∀ h', R h' → wpAny M A t Q E ⟨h', s.gens, s.drawn, s.toks, s.os⟩) : wpAny M A t Q E s := h _ hR
theorem nsGetE {r : Option Value} {Q : Option Value → Shared → Prop} (ho : s.heap.get? a = some o) (e : nsLook name o = pure r) (h : Q r s) : wpAny M A (nsGet a name) Q E s := by
  unfold nsGet
  refine wpAny_bind (wpAny_loadPart ho ?_)
  rw [e]; exact wpAny_pure h
theorem nsSetE {v : Value} {es : Array DictEntry} {n : Nat} {Q : Unit → Shared → Prop} (o' : Int → Tok → Obj) (ho : s.heap.get? a = some o) (hd : o.data = .dict es n) (hr : aRefKeyMayBeTheName name es = false) (e' : ∀ hs t, Obj.putName name hs (.str name t) v o = o' hs t) (hf : ∀ hs t, (o' hs t).isFreed = false)
    (h : ∀ hs t h', h'.get? a = some (o' hs t) → Heap.SameBut a s.heap h' → Q () { s with heap := h', toks := s.toks + 1 }) : wpAny M A (nsSet a name v) Q E s := by
  unfold nsSet strHash
  refine wpAny_bind (wpAny_bind (wpAny_askSetting (wpAny_pure ?_)))
  refine wpAny_bind (wpAny_mkText ?_)
  refine wpAny_bind (wpAny_loadPart ho ?_)
  rw [hd]
  dsimp only
  rw [hr, if_neg (by decide)]
  refine wpAny_updatePart ho ?_
  have g := fun hs => Heap.get?_update_self (Obj.putName name hs (.str name s.toks) v) ho (by rw [e']; exact hf _ _)
  exact h _ s.toks _ ((g _).trans (by rw [e'])) (Heap.SameBut.update ..)
end
end Mine
end
section
open PySem PySem.W PySem.W.X PySem.W.XRun PyProof.Rows PySem.Calls
set_option Elab.async false
set_option maxRecDepth 100000
namespace Mine
theorem ty_type_mro : typeLookup (.type "type") "mro" = pure (some (.builtin "type.mro")) := by rw [typeLookup_type, builtinLookup_eq_fast]; kernel_rfl
theorem ob_mro : mroOf (.type "object") = pure [.type "object"] := by rw [mroOf_type]; kernel_rfl
theorem ref_beq (C : Addr) : (Value.ref C == Value.ref C) = true := by
  simp
theorem fil_ob (C : Addr) : List.filter (fun x => x != Value.ref C) (Value.ref C :: (fun x => Value.type "object" :: x) []) = [Value.type "object"] := by
  have e1 : (Value.ref C != Value.ref C) = false := by rw [bne, ref_beq]; rfl
  have e2 : (Value.type "object" != Value.ref C) = true := rfl
  simp only [List.filter, e1, e2]
theorem ob_del : ((Manifest.find? "object").elim false fun ty => ty.attrs.any fun x => x.fst == "__del__") = false := by decide +kernel
theorem ob_made : Bind.madeBy (.type "object") = pure (some "object.__new__") :=
  madeBy_type ob_mro (by rw [typeLookup_type, builtinLookup_eq_fast]; kernel_rfl) (by decide +kernel)
theorem tlook {M : Model} {A : Around} {E : Value → Shared → Prop} {s : Shared} {C : Addr} {o : Obj} {cd : ClassData} {on : Obj} {name : Str} {r y : Option Value} {Q : Option Value → Shared → Prop}
    (hC : s.heap.get? C = some o) (hd : o.data = .cls cd) (hm : cd.mro = [.ref C, .type "object"]) (hN : s.heap.get? cd.ns = some on) (hl : nsLook name on = pure r)
    (hB : typeLookup (.type "object") name = pure y) (hq : Q (match r with | some v => some v | none => y) s) : wpAny M A (typeLookup (.ref C) name) Q E s := by
  have hrest : lookupAlong [.type "object"] name = pure y := by rw [typeLookup_eq, ob_mro] at hB; exact hB
  rw [typeLookup_eq]
  refine wpAny_bind ?_
  unfold mroOf classData
  refine wpAny_bind (wpAny_bind (wpAny_load hC ?_))
  rw [hd]
  refine wpAny_pure (wpAny_pure ?_)
  rw [hm, lookupAlong_cons]
  refine wpAny_bind ?_
  unfold classOwn classData
  refine wpAny_bind (wpAny_bind (wpAny_load hC ?_))
  rw [hd]
  refine wpAny_pure (nsGetE hN hl ?_)
  cases r with
  | some v => exact wpAny_pure hq
  | none => rw [hrest]; exact wpAny_pure hq
end Mine
end
section
open PySem PySem.W PySem.W.X PySem.W.XRun PyProof.Rows PySem.Calls
set_option Elab.async false
set_option maxRecDepth 100000
namespace Mine
noncomputable abbrev kEs2 (k : KIn) : Array DictEntry := #[⟨k.h1, .str N.d_module k.t1, k.v1⟩, ⟨k.h3, .str N.d_firstlineno k.t3, k.v3⟩, ⟨k.h4, .str N.d_slots k.t4, .ref k.sl⟩,
  ⟨k.h5, .str N.d_init k.t5, .ref k.f1⟩, ⟨k.h6, .str N.d_lt k.t6, .ref k.f2⟩, ⟨k.h7, .str N.d_gt k.t7, .ref k.f3⟩, ⟨k.h8, .str N.d_eq k.t8, .ref k.f4⟩, ⟨k.h9, .str N.d_le k.t9, .ref k.f5⟩, ⟨k.h10, .str N.d_ge k.t10, .ref k.f6⟩,
  ⟨k.h11, .str N.d_hash k.t11, .none⟩, ⟨k.h12, .str N.d_static_attributes k.t12, k.v12⟩]
noncomputable abbrev memO (C : Addr) (t : Tok) : Obj := ⟨.type "member_descriptor", none, .fields #[.str N.d_obj t, .ref C, .builtin "proto.slot", .builtin "proto.slot#set", rawInt 0], #[]⟩
noncomputable abbrev kEs3 (k : KIn) (hs : Int) (t : Tok) (D : Addr) : Array DictEntry := #[⟨k.h1, .str N.d_module k.t1, k.v1⟩, ⟨k.h3, .str N.d_firstlineno k.t3, k.v3⟩, ⟨k.h4, .str N.d_slots k.t4, .ref k.sl⟩,
  ⟨k.h5, .str N.d_init k.t5, .ref k.f1⟩, ⟨k.h6, .str N.d_lt k.t6, .ref k.f2⟩, ⟨k.h7, .str N.d_gt k.t7, .ref k.f3⟩, ⟨k.h8, .str N.d_eq k.t8, .ref k.f4⟩, ⟨k.h9, .str N.d_le k.t9, .ref k.f5⟩, ⟨k.h10, .str N.d_ge k.t10, .ref k.f6⟩,
  ⟨k.h11, .str N.d_hash k.t11, .none⟩, ⟨k.h12, .str N.d_static_attributes k.t12, k.v12⟩, ⟨hs, .str N.d_obj t, .ref D⟩]
noncomputable abbrev clsK (C Nn bt : Addr) (k : KIn) (t : Tok) : Obj := ⟨.type "type", none, .cls { name := N.d_K, bases := [.type "object"], mro := [.ref C, .type "object"], ns := Nn, qualname := k.q }, #[some (.ref bt), none, some (.str N.d_K t), some (.str k.q k.tq), some (.builtin "object.__new__")]⟩
noncomputable abbrev clsK2 (C Nn bt : Addr) (k : KIn) (t : Tok) (sl : Array (Option Value)) : Obj := ⟨.type "type", none, .cls { name := N.d_K, bases := [.type "object"], mro := [.ref C, .type "object"], ns := Nn, qualname := k.q, hasDict := false, slotNames := [N.d_obj] }, sl⟩
noncomputable abbrev sl5 (bt : Addr) (k : KIn) (t : Tok) : Array (Option Value) := #[some (.ref bt), none, some (.str N.d_K t), some (.str k.q k.tq), some (.builtin "object.__new__")]
set_option maxHeartbeats 4000000 in
theorem install_K {prog : Program} {w : World} {A : Around} {s : Shared} {k : KIn} {C Nn bt : Addr} {t : Tok} {Q : Unit → Shared → Prop} {E : Value → Shared → Prop} (hNC : Nn ≠ C)
    (gN : s.heap.get? Nn = some ⟨.type "dict", none, .dict (kEs2 k) 1, #[]⟩) (gC : s.heap.get? C = some (clsK C Nn bt k t))
    (h : ∀ h' tk D td tr hs, h'.get? Nn = some ⟨.type "dict", none, .dict (kEs3 k hs tr D) 2, #[]⟩ → h'.get? C = some (clsK2 C Nn bt k t (sl5 bt k t)) → h'.get? D = some (memO C td) → D = s.heap.objs.size → Off [C, Nn] s.heap h' → Q () { s with heap := h', toks := tk }) :
    wpAny (model prog w) A (Builtin.Slots.install (.ref C) Nn [.type "object"] { names := [N.d_obj], dict := false, weak := false }) Q E s := by
  have e5 := ty_sub_oo
  unfold Builtin.Slots.install
  with_reducible refine wpAny_bind ?_
  iterate 4 (wp_delta)
  iterate 2 (with_reducible refine wpAny_bind ?_)
  wp_delta
  with_reducible refine wpAny_bind ?_
  ((with_reducible apply wpAny_loadPart'); focus (heap_get; done))
  wp_delta
  with_reducible refine wpAny_pure ?_
  ((with_reducible apply wpAny_ite_true); focus (rfl; done))
  with_reducible refine wpAny_bind ?_
  with_reducible refine wpAny_mkStr' ?_
  with_reducible refine wpAny_bind ?_
  iterate 2 (wp_delta)
  ((with_reducible apply wpAny_ite_false); focus (rfl; done))
  iterate 2 (wp_delta)
  with_reducible refine wpAny_bind ?_
  with_reducible refine wpAny_alloc' ?_
  with_reducible refine wpAny_pure ?_
  with_reducible refine wpAny_bind ?_
  wp_delta
  with_reducible refine wpAny_bind ?_
  ((with_reducible apply wpAny_loadPart'); focus (heap_get; done))
  ((with_reducible apply wpAny_ite_false); focus (rfl; done))
  iterate 2 (wp_delta)
  with_reducible refine wpAny_bind ?_
  wp_delta
  with_reducible refine wpAny_bind ?_
  with_reducible refine wpAny_askSetting ?_
  with_reducible refine wpAny_pure ?_
  with_reducible refine wpAny_bind ?_
  with_reducible refine wpAny_mkText ?_
  with_reducible refine wpAny_bind ?_
  ((with_reducible apply wpAny_loadPart'); focus (heap_get; done))
  ((with_reducible apply wpAny_ite_false); focus (rfl; done))
  ((with_reducible apply wpAny_updatePart'); focus (heap_get; done))
  with_reducible refine wpAny_pure ?_
  iterate 2 (wp_delta)
  with_reducible refine wpAny_pure ?_
  with_reducible refine wpAny_bind ?_
  iterate 4 (wp_delta)
  iterate 2 (with_reducible refine wpAny_bind ?_)
  wp_delta
  with_reducible refine wpAny_pure ?_
  ((with_reducible apply wpAny_ite_false); focus (rfl; done))
  with_reducible refine wpAny_pure ?_
  iterate 2 (wp_delta)
  with_reducible refine wpAny_pure ?_
  ((with_reducible apply wpAny_ite_false); focus (rfl; done))
  iterate 2 (wp_delta)
  with_reducible refine wpAny_bind ?_
  ((with_reducible apply wpAny_load'); focus (heap_get; done))
  with_reducible refine wpAny_bind ?_
  ((with_reducible apply wpAny_update'); focus (heap_get; done))
  wp_delta
  with_reducible refine wpAny_bind ?_
  ((with_reducible apply wpAny_loadPart'); focus (heap_get; done))
  wp_delta
  with_reducible refine wpAny_pure ?_
  refine h _ _ s.heap.objs.size s.toks (s.toks + 1) (reduceHash (w.params.strHash N.d_obj.cps)) ?_ ?_ ?_ rfl ?_
  · refine ((Heap.SameBut.update ..).2 Nn hNC).trans (Eq.trans (Heap.get?_update_self _ (Heap.get?_push_of_some _ gN) ?ya1) ?ya2)
    all_goals kernel_rfl
  · refine Eq.trans (Heap.get?_update_self _ (((Heap.SameBut.update ..).2 C (Ne.symm hNC)).trans (Heap.get?_push_of_some _ gC)) ?yb1) ?yb2
    all_goals kernel_rfl
  · refine ((Heap.SameBut.update ..).2 _ (Nat.ne_of_gt (Heap.lt_size gC))).trans (((Heap.SameBut.update ..).2 _ (Nat.ne_of_gt (Heap.lt_size gN))).trans (Heap.get?_push_size _ ?yc1))
    kernel_rfl
  · intro b o hb e
    simp only [List.mem_cons, List.not_mem_nil, or_false, not_or] at hb
    exact ((Heap.SameBut.update ..).2 b hb.1).trans (((Heap.SameBut.update ..).2 b hb.2).trans (Heap.get?_push_of_some _ e))
end Mine
end
section
open PySem PySem.W PySem.W.X PySem.W.XRun PyProof.Rows PySem.Calls
set_option Elab.async false
set_option maxRecDepth 100000
namespace Mine
noncomputable abbrev supO (C : Addr) : Obj := ⟨.type "super", none, .fields #[.ref C, .ref C, .ref C], #[]⟩
section

set_option maxHeartbeats 0 in
theorem superM (prog : Program) (w : World) (s : Shared) (C Nn : Addr) (cd : Str) (sl : Array (Option Value))
    (hC : s.heap.get? C = some ⟨.type "type", none, .cls { name := N.d_K, bases := [.type "object"], mro := [.ref C, .type "object"], ns := Nn, qualname := cd, hasDict := false, slotNames := [N.d_obj] }, sl⟩)
    (Q : Value → Shared → Prop) (E : Value → Shared → Prop)
    (hQ : Ret Q s fun v h' => ∃ a, v = .ref a ∧ h'.get? a = some (supO C) ∧ Kp s.heap h') :
    wpAny (model prog w) AM (call (.type "super") [.ref C, .ref C]) Q E s := by
  have hX := ret1 hQ fun a _ e _ k => ⟨a, rfl, e, k⟩
  x_run
end
end Mine
end
section
open PySem PySem.W PySem.W.X PySem.W.XRun PyProof.Rows PySem.Calls
set_option Elab.async false
set_option maxRecDepth 100000
namespace Mine
noncomputable abbrev d_initsub : Str := "__init_subclass__"
theorem dw_C (C : Addr) : List.drop 1 (List.dropWhile (fun x => x != Value.ref C) [Value.ref C, Value.type "object"]) = [Value.type "object"] := by
  have e1 : (Value.ref C != Value.ref C) = false := by rw [bne, ref_beq]; rfl
  simp only [List.dropWhile, e1, List.drop]
theorem forIn_eq {α β : Type} {M : Model} {A : Around} {E : Value → Shared → Prop} {s : Shared} {l l' : List α} {b : β} {f : α → β → Sem (ForInStep β)} {Q : β → Shared → Prop} (e : l = l') (h : wpAny M A (forIn l' b f) Q E s) : wpAny M A (forIn l b f) Q E s := e ▸ h
theorem cd_get : typeLookup (.type "classmethod_descriptor") "__get__" = pure (some (.builtin "classmethod_descriptor.__get__")) := by rw [typeLookup_type, builtinLookup_eq_fast]; kernel_rfl
section

set_option maxHeartbeats 0 in
theorem cdgetM (prog : Program) (w : World) (s : Shared) (C Nn : Addr) (cd : Str) (sl : Array (Option Value))
    (hC : s.heap.get? C = some ⟨.type "type", none, .cls { name := N.d_K, bases := [.type "object"], mro := [.ref C, .type "object"], ns := Nn, qualname := cd, hasDict := false, slotNames := [N.d_obj] }, sl⟩)
    (Q : Value → Shared → Prop) (E : Value → Shared → Prop)
    (hQ : Ret Q s fun v h' => ∃ a, v = .ref a ∧ h'.get? a = some ⟨.type "builtin_function_or_method", none, .fields #[.builtin "object.__init_subclass__", .ref C], #[]⟩ ∧ Kp s.heap h') :
    wpAny (model prog w) AM (call (.builtin "classmethod_descriptor.__get__") [.builtin "object.__init_subclass__", .none, .ref C]) Q E s := by
  have hX := ret1 hQ fun a _ e _ k => ⟨a, rfl, e, k⟩
  x_run
end
set_option maxHeartbeats 4000000 in
theorem super_ga {prog : Program} {w : World} {A : Around} (ok : AOk A) {s : Shared} {C Nn a : Addr} {cd : Str} {sl : Array (Option Value)} {t : Tok} {Q : PySem.Fin → Shared → Prop} {E : Value → Shared → Prop}
    (hC : s.heap.get? C = some ⟨.type "type", none, .cls { name := N.d_K, bases := [.type "object"], mro := [.ref C, .type "object"], ns := Nn, qualname := cd, hasDict := false, slotNames := [N.d_obj] }, sl⟩)
    (ha : s.heap.get? a = some (supO C)) (h2 : s.heap.get? 2 = some ⟨.none, none, .dict #[] 0, #[]⟩)
    (h : ∀ h' tk b, h'.get? b = some ⟨.type "builtin_function_or_method", none, .fields #[.builtin "object.__init_subclass__", .ref C], #[]⟩ → Kp s.heap h' → Q (.done (.ret (.ref b))) { s with heap := h', toks := tk }) :
    wpAny (model prog w) A (Builtin.«super.__getattribute__» ⟨[.ref a, .str d_initsub t], []⟩) Q E s := by
  unfold Builtin.«super.__getattribute__»
  with_reducible refine wpAny_bind ?_
  wp_delta
  with_reducible refine wpAny_pure ?_
  ((with_reducible apply wpAny_ite_false); focus (rfl; done))
  with_reducible refine wpAny_bind ?_
  wp_delta
  with_reducible refine wpAny_pure ?_
  with_reducible refine wpAny_bind ?_
  wp_delta
  with_reducible refine wpAny_bind ?_
  wp_delta
  with_reducible refine wpAny_bind ?_
  ((with_reducible apply wpAny_load'); focus (heap_get; done))
  with_reducible refine wpAny_pure ?_
  wp_delta
  with_reducible refine wpAny_pure ?_
  with_reducible refine wpAny_bind ?_
  wp_delta
  with_reducible refine wpAny_bind ?_
  wp_delta
  with_reducible refine wpAny_bind ?_
  ((with_reducible apply wpAny_load'); focus (heap_get; done))
  with_reducible refine wpAny_pure ?_
  wp_delta
  with_reducible refine wpAny_pure ?_
  with_reducible refine wpAny_bind ?_
  wp_delta
  with_reducible refine wpAny_bind ?_
  wp_delta
  with_reducible refine wpAny_bind ?_
  ((with_reducible apply wpAny_load'); focus (heap_get; done))
  with_reducible refine wpAny_pure ?_
  wp_delta
  with_reducible refine wpAny_pure ?_
  ((with_reducible apply wpAny_ite_false); focus (rfl; done))
  with_reducible refine wpAny_bind ?_
  wp_delta
  with_reducible refine wpAny_bind ?_
  wp_delta
  with_reducible refine wpAny_bind ?_
  wp_delta
  with_reducible refine wpAny_bind ?_
  wp_delta
  with_reducible refine wpAny_bind ?_
  ((with_reducible apply wpAny_loadPart'); focus (heap_get; done))
  wp_delta
  iterate 2 (with_reducible refine wpAny_pure ?_)
  ((with_reducible apply wpAny_ite_true); focus (rfl; done))
  iterate 2 (with_reducible refine wpAny_pure ?_)
  ((with_reducible apply wpAny_ite_false); focus (rfl; done))
  with_reducible refine wpAny_bind ?_
  wp_delta
  with_reducible refine wpAny_bind ?_
  wp_delta
  with_reducible refine wpAny_bind ?_
  ((with_reducible apply wpAny_load'); focus (heap_get; done))
  iterate 2 (with_reducible refine wpAny_pure ?_)
  with_reducible refine wpAny_bind ?_
  refine forIn_eq (dw_C C) ?_
  iterate 4 (wp_delta)
  iterate 2 (with_reducible refine wpAny_bind ?_)
  wp_delta
  with_reducible refine wpAny_pure ?_
  wp_delta
  with_reducible refine wpAny_bind ?_
  iterate 2 (wp_delta)
  ((with_reducible apply wpAny_ite_false); focus (rfl; done))
  wp_delta
  with_reducible refine wpAny_pure ?_
  with_reducible refine wpAny_bind ?_
  refine wpAny_of_eq ((congrArg (fun x => typeLookup (.type x) (Str.ofString "__get__")) (show _ = "classmethod_descriptor" by kernel_rfl)).trans cd_get) ?_
  refine wpAny_bind (wpAny_holding ?_)
  have e1 : (if (#[Value.ref C, Value.ref C, Value.ref C][1] == #[Value.ref C, Value.ref C, Value.ref C][2]) = true then Value.none else #[Value.ref C, Value.ref C, Value.ref C][1]) = Value.none := if_pos (ref_beq C)
  rw [e1]
  refine any_weak ok (cdgetM prog w _ C Nn cd sl hC _ _ ?_)
  rintro v h' tk ⟨b, rfl, hb, kp⟩
  with_reducible refine wpAny_bind ?_
  wp_delta
  iterate 4 (with_reducible refine wpAny_pure ?_)
  exact h h' tk b hb kp
theorem su_get : typeLookup (.type "super") "__getattribute__" = pure (some (.builtin "super.__getattribute__")) := by rw [typeLookup_type, builtinLookup_eq_fast]; kernel_rfl
theorem su_sub : isSubtype (.type "super") (.type "super") = pure true := by rw [isSubtype_type]; kernel_rfl
theorem su_slotG : Slot "super" "__getattribute__" "super.__getattribute__" :=
  .of (owner := "super") (n := "__getattribute__") (by rw [typeLookup_type, builtinLookup_eq_fast]; kernel_rfl) (by decide +kernel) (by decide +kernel) (by decide +kernel) (.inl (by decide +kernel)) su_sub
theorem su_entryG : entryFor table "super.__getattribute__" = some Builtin.«super.__getattribute__» := entryFor_of_tree (by kernel_rfl)
theorem su_argsG (a v : Value) : argsOk "super.__getattribute__" ⟨[a, v], []⟩ := by unfold argsOk; kernel_rfl
theorem AOk.in1' {A : Around} (h : AOk A) (hu : A.units ≤ 1490 := by first | assumption | lia) : AOk A.in1 := h.in1 (by lia)
set_option maxHeartbeats 4000000 in
theorem super_attr {prog : Program} {w : World} {A : Around} (ok : AOk A) (hu : A.units ≤ 1490) {s : Shared} {C Nn a : Addr} {cd : Str} {sl : Array (Option Value)} {Q : Value → Shared → Prop} {E : Value → Shared → Prop}
    (hC : s.heap.get? C = some ⟨.type "type", none, .cls { name := N.d_K, bases := [.type "object"], mro := [.ref C, .type "object"], ns := Nn, qualname := cd, hasDict := false, slotNames := [N.d_obj] }, sl⟩)
    (ha : s.heap.get? a = some (supO C)) (h2 : s.heap.get? 2 = some ⟨.none, none, .dict #[] 0, #[]⟩)
    (h : ∀ h' tk b, h'.get? b = some ⟨.type "builtin_function_or_method", none, .fields #[.builtin "object.__init_subclass__", .ref C], #[]⟩ → Kp s.heap h' → Q (.ref b) { s with heap := h', toks := tk }) :
    wpAny (model prog w) A (getAttr (.ref a) d_initsub) Q E s := by
  have hT : s.TypeIs (.ref a) "super" := ⟨_, ha, rfl⟩
  have e1 := su_get
  unfold getAttr
  with_reducible refine wpAny_bind ?_
  with_reducible refine wpAny_mkText ?_
  wp_delta
  with_reducible refine wpAny_holding ?_
  with_reducible refine wpAny_bind ?_
  wp_delta
  with_reducible refine wpAny_bind ?_
  ((with_reducible apply wpAny_loadPart'); focus (heap_get; done))
  with_reducible refine wpAny_pure ?_
  with_reducible refine wpAny_bind ?_
  with_reducible refine wpAny_of_eq (by assumption) ?_
  ((with_reducible apply wpAny_ite_false); focus (rfl; done))
  wp_delta
  with_reducible refine wpAny_bind ?_
  wp_delta
  ((with_reducible apply wpAny_ite_false); focus (rfl; done))
  with_reducible refine wpAny_pure ?_
  with_reducible refine wpAny_bind ?_
  with_reducible refine wpAny_attempt ?_
  with_reducible refine wpAny_holding ?_
  wp_delta
  ((with_reducible apply wpAny_ite_false); focus (rfl; done))
  wp_delta
  with_reducible refine wpAny_bind ?_
  refine wpAny_of_eq (su_slotG.bind _) ?_
  refine wpAny_call_entry su_slotG hT su_entryG ?_ (su_argsG _ _)
  refine super_ga ok.in1' hC ha h2 fun h' tk b hb kp => ?_
  refine ⟨_, rfl, ?_⟩
  iterate 2 (wp_delta)
  with_reducible refine wpAny_pure ?_
  exact h h' tk b hb kp
noncomputable abbrev qK : Str := ⟨#[99, 109, 112, 95, 116, 111, 95, 107, 101, 121, 46, 60, 108, 111, 99, 97, 108, 115, 62, 46, 75]⟩
section

set_option maxHeartbeats 0 in
theorem initsubM (prog : Program) (w : World) (s : Shared) (C Nn b : Addr) (sl : Array (Option Value))
    (hC : s.heap.get? C = some ⟨.type "type", none, .cls { name := N.d_K, bases := [.type "object"], mro := [.ref C, .type "object"], ns := Nn, qualname := qK, hasDict := false, slotNames := [N.d_obj] }, sl⟩)
    (hb : s.heap.get? b = some ⟨.type "builtin_function_or_method", none, .fields #[.builtin "object.__init_subclass__", .ref C], #[]⟩)
    (Q : Value → Shared → Prop) (E : Value → Shared → Prop)
    (hQ : Ret Q s fun v h' => v = .none ∧ Kp s.heap h') :
    wpAny (model prog w) AM (call (.ref b) []) Q E s := by
  have m0 := Mem.start s.heap
  have hX := ret0 hQ ⟨rfl, fun _ _ e => e⟩
  x_run
end
end Mine
end
section
open PySem PySem.W PySem.W.X PySem.W.XRun PyProof.Rows PySem.Calls PySem.MeetsSeq2
set_option Elab.async false
set_option maxRecDepth 100000
namespace Mine
theorem hooks_tail {prog : Program} {w : World} {A : Around} (ok : AOk A) (hu : A.units ≤ 1490) {s : Shared} {C Nn : Addr} {sl : Array (Option Value)} {Q : Unit → Shared → Prop} {E : Value → Shared → Prop}
    (hC : s.heap.get? C = some ⟨.type "type", none, .cls { name := N.d_K, bases := [.type "object"], mro := [.ref C, .type "object"], ns := Nn, qualname := qK, hasDict := false, slotNames := [N.d_obj] }, sl⟩)
    (h2 : s.heap.get? 2 = some ⟨.none, none, .dict #[] 0, #[]⟩)
    (h : ∀ h' tk, Kp s.heap h' → Q () { s with heap := h', toks := tk }) :
    wpAny (model prog w) A (do
          let sup ← call (Value.type "super") [Value.ref C, Value.ref C]
          let f ← holding [sup] (getAttr sup (Str.ofString "__init_subclass__"))
          let _ ← call f
          pure ()) Q E s := by
  refine wpAny_bind (any_weak ok (superM prog w s C Nn qK sl hC _ _ ?_))
  rintro v h1 tk1 ⟨a, rfl, ha, k1⟩
  refine wpAny_bind (wpAny_holding (super_attr ok hu (k1 _ _ hC) ha (k1 _ _ h2) ?_))
  intro h3 tk3 b hb k3
  refine wpAny_bind (any_weak ok (initsubM prog w _ C Nn b sl (k3 _ _ (k1 _ _ hC)) hb _ _ ?_))
  rintro v h4 tk4 ⟨rfl, k4⟩
  exact wpAny_pure (h _ _ fun b o e => k4 b o (k3 b o (k1 b o e)))
theorem dictEntriesE {M : Model} {A : Around} {E : Value → Shared → Prop} {s : Shared} {a : Addr} {c : Value} {d : Option Addr} {es : Array DictEntry} {n : Nat} {sl : Array (Option Value)} {Q : Array DictEntry → Shared → Prop} (ho : s.heap.get? a = some ⟨c, d, .dict es n, sl⟩) (h : Q es s) : wpAny M A (dictEntries a) Q E s := by
  unfold dictEntries
  exact wpAny_bind (wpAny_loadPart ho (wpAny_pure h))
noncomputable def Plain (s : Shared) (v : Value) : Prop := (∀ id, v ≠ .builtin id) ∧ ∃ T, s.TypeIs v T ∧ typeLookup (.type T) "__set_name__" = pure none
theorem Plain.kp {s s' : Shared} {v : Value} (p : Plain s v) (k : Kp s.heap s'.heap) : Plain s' v := by
  obtain ⟨a, T, b, c⟩ := p
  refine ⟨a, T, ?_, c⟩
  cases v <;> first | exact b | (obtain ⟨o, e1, e2⟩ := b; exact ⟨o, k _ _ e1, e2⟩)
theorem Plain.laid {s : Shared} {k v : Value} (p : Plain s v) : Builtin.laidUnderItsOwnName k v = false := by
  cases k <;> first | rfl | skip
  cases v <;> first | rfl | skip
  exact absurd rfl (p.1 _)
set_option maxHeartbeats 1000000 in
theorem hooks_K {prog : Program} {w : World} {A : Around} (ok : AOk A) (hu : A.units ≤ 1490) {s : Shared} {C Nn : Addr} {sl : Array (Option Value)} {es : Array DictEntry} {n : Nat} {T1 T2 : Sem Unit} {f : DictEntry → PUnit → Sem (ForInStep PUnit)} {Q : Unit → Shared → Prop} {E : Value → Shared → Prop}
    (hC : s.heap.get? C = some ⟨.type "type", none, .cls { name := N.d_K, bases := [.type "object"], mro := [.ref C, .type "object"], ns := Nn, qualname := qK, hasDict := false, slotNames := [N.d_obj] }, sl⟩)
    (hN : s.heap.get? Nn = some ⟨.type "dict", none, .dict es n, #[]⟩) (hes : ∀ e ∈ es.toList, (∃ x t, e.key = .str x t) ∧ Plain s e.val)
    (h2 : s.heap.get? 2 = some ⟨.none, none, .dict #[] 0, #[]⟩)
    (hf : ∀ e, Plain s e.val → ∀ Q E, Q (.yield ⟨⟩) s → wpAny (model prog w) A (f e ⟨⟩) Q E s)
    (hT2 : T2 = (do
          let __do_lift ← dictEntries Nn
          forIn __do_lift PUnit.unit f
          let sup ← call (Value.type "super") [Value.ref C, Value.ref C]
          let f ← holding [sup] (getAttr sup (Str.ofString "__init_subclass__"))
          let _ ← call f
          pure ()))
    (h : ∀ h' tk, Kp s.heap h' → Q () { s with heap := h', toks := tk }) :
    wpAny (model prog w) A (do
      let __do_lift ← dictEntries Nn
      let __s ←
        forIn __do_lift false fun e __s => do
            let __do_lift ← asStr? e.key
            if __do_lift.isNone = true then pure (ForInStep.yield true) else pure (ForInStep.yield __s)
      if __s = true then T1 else T2) Q E s := by
  refine wpAny_bind (dictEntriesE hN ?_)
  refine wpAny_bind (wpAny_forIn_array _ (fun rest b s' => b = false ∧ s' = s ∧ ∀ e ∈ rest, ∃ x t, e.key = .str x t) _ ?_ ?_ _ _ ⟨rfl, rfl, fun e he => (hes e he).1⟩)
  · rintro e rest b s' ⟨rfl, rfl, hr⟩
    obtain ⟨x, t, hk⟩ := hr e (.head _)
    refine wpAny_bind (wpAny_of_eq (a := some x) (by rw [hk]; rfl) ?_)
    refine wpAny_ite_false (by rfl) (wpAny_pure ⟨rfl, rfl, fun e he => hr e (.tail _ he)⟩)
  · rintro b s' ⟨rfl, rfl, _⟩
    refine wpAny_ite_false (by rfl) ?_
    subst hT2
    refine wpAny_bind (dictEntriesE hN ?_)
    refine wpAny_bind (wpAny_forIn_array _ (fun rest b s'' => s'' = s' ∧ ∀ e ∈ rest, Plain s' e.val) _ ?_ ?_ _ _ ⟨rfl, fun e he => (hes e he).2⟩)
    · rintro e rest b s'' ⟨rfl, hr⟩
      exact hf e (hr e (.head _)) _ _ ⟨rfl, fun e he => hr e (.tail _ he)⟩
    · rintro b s'' ⟨rfl, _⟩
      exact hooks_tail ok hu hC h2 h
end Mine
end
section
open PySem PySem.W PySem.W.X PySem.W.XRun PyProof.Rows PySem.Calls PySem.MeetsSeq2
set_option Elab.async false
set_option maxRecDepth 100000
namespace Mine
theorem ob_new : typeLookup (.type "object") "__new__" = pure (some (.builtin "object.__new__")) := by rw [typeLookup_type, builtinLookup_eq_fast]; kernel_rfl
theorem slots_read' {prog : Program} {w : World} {A : Around} {s : Shared} {k : KIn} {bs : List Value} {to : Tok} {no : Nat} {Q : Builtin.Slots.Plan → Shared → Prop} {E : Value → Shared → Prop} (hbs : bs = [.type "object"]) (ok : AOk A)
   (hl : s.heap.get? k.sl = some ⟨.type "list", none, .seq #[.str N.d_obj to] no, #[]⟩)
   (h : ∀ h' tk, Kp s.heap h' → Q { names := [N.d_obj], dict := false, weak := false, inherited := [] } { s with heap := h', toks := tk }) :
   wpAny (model prog w) A (Builtin.Slots.read N.d_K bs (kEs k)) Q E s := by subst hbs; exact slots_read ok hl h
noncomputable abbrev kEs4 (k : KIn) (hs : Int) (t : Tok) (D : Addr) (hd : Int) (td : Tok) : Array DictEntry := #[⟨k.h1, .str N.d_module k.t1, k.v1⟩, ⟨k.h3, .str N.d_firstlineno k.t3, k.v3⟩, ⟨k.h4, .str N.d_slots k.t4, .ref k.sl⟩,
  ⟨k.h5, .str N.d_init k.t5, .ref k.f1⟩, ⟨k.h6, .str N.d_lt k.t6, .ref k.f2⟩, ⟨k.h7, .str N.d_gt k.t7, .ref k.f3⟩, ⟨k.h8, .str N.d_eq k.t8, .ref k.f4⟩, ⟨k.h9, .str N.d_le k.t9, .ref k.f5⟩, ⟨k.h10, .str N.d_ge k.t10, .ref k.f6⟩,
  ⟨k.h11, .str N.d_hash k.t11, .none⟩, ⟨k.h12, .str N.d_static_attributes k.t12, k.v12⟩, ⟨hs, .str N.d_obj t, .ref D⟩, ⟨hd, .str N.d_doc td, .none⟩]
noncomputable abbrev sl6 (bt : Addr) (k : KIn) (t : Tok) : Array (Option Value) := #[some (.ref bt), none, some (.str N.d_K t), some (.str k.q k.tq), some (.builtin "object.__new__"), some (.bool false)]
theorem no_set : typeLookup (.type "NoneType") "__set_name__" = pure none := by rw [typeLookup_type, builtinLookup_eq_fast]; kernel_rfl
theorem md_set : typeLookup (.type "member_descriptor") "__set_name__" = pure none := by rw [typeLookup_type, builtinLookup_eq_fast]; kernel_rfl
theorem install_K' {prog : Program} {w : World} {A : Around} {s : Shared} {k : KIn} {C Nn bt : Addr} {t : Tok} {bs : List Value} {Q : Unit → Shared → Prop} {E : Value → Shared → Prop} (hbs : bs = [.type "object"]) (hNC : Nn ≠ C)
    (gN : s.heap.get? Nn = some ⟨.type "dict", none, .dict (kEs2 k) 1, #[]⟩) (gC : s.heap.get? C = some (clsK C Nn bt k t))
    (h : ∀ h' tk D td tr hs, h'.get? Nn = some ⟨.type "dict", none, .dict (kEs3 k hs tr D) 2, #[]⟩ → h'.get? C = some (clsK2 C Nn bt k t (sl5 bt k t)) → h'.get? D = some (memO C td) → D = s.heap.objs.size → Off [C, Nn] s.heap h' → Q () { s with heap := h', toks := tk }) :
    wpAny (model prog w) A (Builtin.Slots.install (.ref C) Nn bs { names := [N.d_obj], dict := false, weak := false }) Q E s := by subst hbs; exact install_K hNC gN gC h
set_option maxHeartbeats 4000000 in
theorem tnew (prog : Program) (w : World) (A : Around) (ok : AOk A) (s : Shared) (t : Tok) (bt ns : Addr) (k : KIn)
   (hms : (ns == sysModules) = false) (to : Tok) (no : Nat) (hl : s.heap.get? k.sl = some ⟨.type "list", none, .seq #[.str N.d_obj to] no, #[]⟩) (hb : s.heap.get? bt = some ⟨.type "tuple", none, .seq #[.type "object"] 0, #[]⟩) (hn : s.heap.get? ns = some ⟨.type "dict", none, .dict (kEs k) k.n, #[]⟩)
   (hu : A.units ≤ 1490) (hq : k.q = qK) (h20 : s.heap.get? 2 = some ⟨.none, none, .dict #[] 0, #[]⟩) (hP : ∀ v ∈ [k.v1, k.v3, .ref k.sl, .ref k.f1, .ref k.f2, .ref k.f3, .ref k.f4, .ref k.f5, .ref k.f6, k.v12], Plain s v)
   (Q : PySem.Fin → Shared → Prop) (E : Value → Shared → Prop)
   (hR : ∀ h' tk C Nn D td tr hs hd tdoc, s.heap.get? C = none → s.heap.get? Nn = none → h'.get? Nn = some ⟨.type "dict", none, .dict (kEs4 k hs tr D hd tdoc) 3, #[]⟩ → h'.get? C = some (clsK2 C Nn bt k t (sl6 bt k t)) → h'.get? D = some (memO C td) → Kp s.heap h' → Q (.done (.ret (.ref C))) { s with heap := h', toks := tk }) :
   wpAny (model prog w) A (Builtin.«type.__new__» ⟨[.type "type", .str N.d_K t, .ref bt, .ref ns], []⟩) Q E s := by
  have hTb : s.TypeIs (.ref bt) "tuple" := ⟨_, hb, rfl⟩
  have hTn : s.TypeIs (.ref ns) "dict" := ⟨_, hn, rfl⟩
  have e1 := ty_sub_tup
  have e2 := ty_sub_dict
  have e3 := ty_sub_m
  have e4 := ty_dict_iter
  have e5 := ty_sub_oo
  unfold Builtin.«type.__new__»
  try with_reducible refine kont ?_
  with_reducible refine bindK ?_
  try with_reducible refine kont ?_
  wp_delta
  try with_reducible refine kont ?_
  with_reducible refine wpAny_pure ?_
  try with_reducible refine kont ?_
  with_reducible refine bindK ?_
  try with_reducible refine kont ?_
  with_reducible refine wpAny_isInstance (by assumption) (by assumption) ?_
  try with_reducible refine kont ?_
  ((with_reducible apply wpAny_ite_false); focus (rfl; done))
  try with_reducible refine kont ?_
  with_reducible refine bindK ?_
  try with_reducible refine kont ?_
  with_reducible refine wpAny_isInstance (by assumption) (by assumption) ?_
  try with_reducible refine kont ?_
  ((with_reducible apply wpAny_ite_false); focus (rfl; done))
  try with_reducible refine kont ?_
  with_reducible refine bindK ?_
  try with_reducible refine kont ?_
  wp_delta
  try with_reducible refine kont ?_
  with_reducible refine bindK ?_
  try with_reducible refine kont ?_
  ((with_reducible apply wpAny_load'); focus (heap_get; done))
  try with_reducible refine kont ?_
  with_reducible refine wpAny_pure ?_
  try with_reducible refine kont ?_
  ((with_reducible apply wpAny_ite_false); focus (rfl; done))
  try with_reducible refine kont ?_
  with_reducible refine bindK ?_
  try with_reducible refine kont ?_
  iterate 4 (wp_delta)
  try with_reducible refine kont ?_
  iterate 2 ((try with_reducible refine kont ?_); with_reducible refine bindK ?_)
  try with_reducible refine kont ?_
  wp_delta
  try with_reducible refine kont ?_
  with_reducible refine wpAny_pure ?_
  try with_reducible refine kont ?_
  ((with_reducible apply wpAny_ite_false); focus (rfl; done))
  try with_reducible refine kont ?_
  with_reducible refine wpAny_pure ?_
  try with_reducible refine kont ?_
  iterate 2 (wp_delta)
  try with_reducible refine kont ?_
  with_reducible refine wpAny_pure ?_
  try with_reducible refine kont ?_
  with_reducible refine bindK ?_
  try with_reducible refine kont ?_
  iterate 4 (wp_delta)
  try with_reducible refine kont ?_
  iterate 2 ((try with_reducible refine kont ?_); with_reducible refine bindK ?_)
  try with_reducible refine kont ?_
  wp_delta
  try with_reducible refine kont ?_
  with_reducible refine wpAny_pure ?_
  try with_reducible refine kont ?_
  with_reducible refine bindK ?_
  try with_reducible refine kont ?_
  with_reducible refine wpAny_of_eq (by assumption) ?_
  try with_reducible refine kont ?_
  ((with_reducible apply wpAny_ite_true); focus (rfl; done))
  try with_reducible refine kont ?_
  with_reducible refine wpAny_pure ?_
  try with_reducible refine kont ?_
  iterate 2 (wp_delta)
  try with_reducible refine kont ?_
  with_reducible refine wpAny_pure ?_
  try with_reducible refine kont ?_
  ((with_reducible apply wpAny_ite_false); focus (rfl; done))
  try with_reducible refine kont ?_
  with_reducible refine bindK ?_
  try with_reducible refine kont ?_
  wp_delta
  try with_reducible refine kont ?_
  with_reducible refine bindK ?_
  try with_reducible refine kont ?_
  iterate 4 (wp_delta)
  try with_reducible refine kont ?_
  iterate 2 ((try with_reducible refine kont ?_); with_reducible refine bindK ?_)
  try with_reducible refine kont ?_
  wp_delta
  try with_reducible refine kont ?_
  with_reducible refine wpAny_pure ?_
  try with_reducible refine kont ?_
  ((with_reducible apply wpAny_ite_true); focus (rfl; done))
  try with_reducible refine kont ?_
  with_reducible refine bindK ?_
  try with_reducible refine kont ?_
  wp_delta
  try with_reducible refine kont ?_
  with_reducible refine wpAny_pure ?_
  try with_reducible refine kont ?_
  with_reducible refine bindK ?_
  try with_reducible refine kont ?_
  iterate 4 (wp_delta)
  try with_reducible refine kont ?_
  with_reducible refine bindK ?_
  try with_reducible refine kont ?_
  with_reducible refine wpAny_pure ?_
  try with_reducible refine kont ?_
  iterate 2 (wp_delta)
  try with_reducible refine kont ?_
  with_reducible refine bindK ?_
  try with_reducible refine kont ?_
  with_reducible refine wpAny_pure ?_
  try with_reducible refine kont ?_
  iterate 2 (wp_delta)
  try with_reducible refine kont ?_
  iterate 2 ((try with_reducible refine kont ?_); with_reducible refine wpAny_pure ?_)
  try with_reducible refine kont ?_
  iterate 2 (wp_delta)
  try with_reducible refine kont ?_
  iterate 2 ((try with_reducible refine kont ?_); with_reducible refine wpAny_pure ?_)
  try with_reducible refine kont ?_
  with_reducible refine bindK ?_
  try with_reducible refine kont ?_
  wp_delta
  try with_reducible refine kont ?_
  with_reducible refine bindK ?_
  try with_reducible refine kont ?_
  iterate 4 (wp_delta)
  try with_reducible refine kont ?_
  with_reducible refine bindK ?_
  try with_reducible refine kont ?_
  wp_delta
  try with_reducible refine kont ?_
  iterate 3 (((with_reducible apply wpAny_ite_false); focus (rfl; done)))
  try with_reducible refine kont ?_
  with_reducible refine bindK ?_
  try with_reducible refine kont ?_
  wp_delta
  try with_reducible refine kont ?_
  with_reducible refine bindK ?_
  try with_reducible refine kont ?_
  wp_delta
  try with_reducible refine kont ?_
  with_reducible refine wpAny_pure ?_
  try with_reducible refine kont ?_
  with_reducible refine bindK ?_
  try with_reducible refine kont ?_
  iterate 4 (wp_delta)
  try with_reducible refine kont ?_
  iterate 2 ((try with_reducible refine kont ?_); with_reducible refine bindK ?_)
  try with_reducible refine kont ?_
  wp_delta
  try with_reducible refine kont ?_
  with_reducible refine wpAny_pure ?_
  try with_reducible refine kont ?_
  ((with_reducible apply wpAny_ite_false); focus (rfl; done))
  try with_reducible refine kont ?_
  ((with_reducible apply wpAny_ite_true); focus (rfl; done))
  try with_reducible refine kont ?_
  iterate 3 ((try with_reducible refine kont ?_); with_reducible refine wpAny_pure ?_)
  try with_reducible refine kont ?_
  with_reducible refine bindK ?_
  try with_reducible refine kont ?_
  with_reducible refine wpAny_of_eq (by assumption) ?_
  try with_reducible refine kont ?_
  ((with_reducible apply wpAny_ite_true); focus (rfl; done))
  try with_reducible refine kont ?_
  with_reducible refine wpAny_pure ?_
  try with_reducible refine kont ?_
  iterate 2 (wp_delta)
  try with_reducible refine kont ?_
  with_reducible refine wpAny_pure ?_
  try with_reducible refine kont ?_
  wp_delta
  try with_reducible refine kont ?_
  with_reducible refine bindK ?_
  try with_reducible refine kont ?_
  iterate 4 (wp_delta)
  try with_reducible refine kont ?_
  iterate 2 ((try with_reducible refine kont ?_); with_reducible refine bindK ?_)
  try with_reducible refine kont ?_
  wp_delta
  try with_reducible refine kont ?_
  with_reducible refine bindK ?_
  try with_reducible refine kont ?_
  wp_delta
  try with_reducible refine kont ?_
  with_reducible refine wpAny_pure ?_
  try with_reducible refine kont ?_
  with_reducible refine bindK ?_
  try with_reducible refine kont ?_
  iterate 4 (wp_delta)
  try with_reducible refine kont ?_
  iterate 2 ((try with_reducible refine kont ?_); with_reducible refine bindK ?_)
  try with_reducible refine kont ?_
  wp_delta
  try with_reducible refine kont ?_
  with_reducible refine wpAny_pure ?_
  try with_reducible refine kont ?_
  ((with_reducible apply wpAny_ite_false); focus (rfl; done))
  try with_reducible refine kont ?_
  ((with_reducible apply wpAny_ite_true); focus (rfl; done))
  try with_reducible refine kont ?_
  iterate 4 ((try with_reducible refine kont ?_); with_reducible refine wpAny_pure ?_)
  try with_reducible refine kont ?_
  iterate 2 (wp_delta)
  try with_reducible refine kont ?_
  iterate 2 ((try with_reducible refine kont ?_); with_reducible refine wpAny_pure ?_)
  try with_reducible refine kont ?_
  ((with_reducible apply wpAny_ite_false); focus (simp [*]; done))
  try with_reducible refine kont ?_
  with_reducible refine bindK ?_
  try with_reducible refine kont ?_
  wp_delta
  try with_reducible refine kont ?_
  with_reducible refine bindK ?_
  try with_reducible refine kont ?_
  ((with_reducible apply wpAny_loadPart'); focus (heap_get; done))
  try with_reducible refine kont ?_
  with_reducible refine wpAny_pure ?_
  try with_reducible refine kont ?_
  with_reducible refine bindK ?_
  try with_reducible refine kont ?_
  with_reducible refine wpAny_specialOf (by assumption) (by assumption) ?_
  try with_reducible refine kont ?_
  ((with_reducible apply wpAny_ite_true); focus (rfl; done))
  try with_reducible refine kont ?_
  with_reducible refine bindK ?_
  try with_reducible refine kont ?_
  with_reducible refine wpAny_pure ?_
  try with_reducible refine kont ?_
  with_reducible refine bindK ?_
  try with_reducible refine kont ?_
  with_reducible refine wpAny_holding ?_
  try with_reducible refine kont ?_
  ((with_reducible refine slots_read' ?hbs ok hl ?_); (case hbs => rfl))
  try with_reducible refine kont ?_
  intro h' tk kp
  try with_reducible refine kont ?_
  with_reducible refine bindK ?_
  try with_reducible refine kont ?_
  wp_delta
  try with_reducible refine kont ?_
  ((with_reducible apply wpAny_ite_false); focus (rfl; done))
  try with_reducible refine kont ?_
  iterate 2 (wp_delta)
  try with_reducible refine kont ?_
  with_reducible refine bindK ?_
  try with_reducible refine kont ?_
  with_reducible refine wpAny_alloc' ?_
  try with_reducible refine kont ?_
  with_reducible refine wpAny_pure ?_
  try with_reducible refine kont ?_
  wp_delta
  try with_reducible refine kont ?_
  ((with_reducible apply wpAny_ite_false); focus (kernel_rfl; done))
  try with_reducible refine kont ?_
  with_reducible refine bindK ?_
  try with_reducible refine kont ?_
  ((with_reducible apply wpAny_ite_false); focus (simp [*]; done))
  try with_reducible refine kont ?_
  with_reducible refine wpAny_pure ?_
  try with_reducible refine kont ?_
  ((with_reducible apply wpAny_ite_false); focus (simp [*]; done))
  try with_reducible refine kont ?_
  with_reducible refine bindK ?_
  try with_reducible refine kont ?_
  wp_delta
  try with_reducible refine kont ?_
  with_reducible refine bindK ?_
  try with_reducible refine kont ?_
  ((with_reducible apply wpAny_loadPart'); focus (heap_get; done))
  try with_reducible refine kont ?_
  wp_delta
  try with_reducible refine kont ?_
  with_reducible refine wpAny_pure ?_
  try with_reducible refine kont ?_
  with_reducible refine bindK ?_
  try with_reducible refine kont ?_
  wp_delta
  try with_reducible refine kont ?_
  with_reducible refine bindK ?_
  try with_reducible refine kont ?_
  ((with_reducible apply wpAny_loadPart'); focus (heap_get; done))
  try with_reducible refine kont ?_
  wp_delta
  try with_reducible refine kont ?_
  with_reducible refine wpAny_pure ?_
  try with_reducible refine kont ?_
  with_reducible refine bindK ?_
  try with_reducible refine kont ?_
  wp_delta
  try with_reducible refine kont ?_
  with_reducible refine wpAny_pure ?_
  try with_reducible refine kont ?_
  with_reducible refine bindK ?_
  try with_reducible refine kont ?_
  with_reducible refine wpAny_pure ?_
  try with_reducible refine kont ?_
  with_reducible refine bindK ?_
  try with_reducible refine kont ?_
  wp_delta
  try with_reducible refine kont ?_
  with_reducible refine bindK ?_
  try with_reducible refine kont ?_
  ((with_reducible apply wpAny_loadPart'); focus (heap_get; done))
  try with_reducible refine kont ?_
  wp_delta
  try with_reducible refine kont ?_
  with_reducible refine wpAny_pure ?_
  try with_reducible refine kont ?_
  with_reducible refine bindK ?_
  try with_reducible refine kont ?_
  with_reducible refine wpAny_alloc' ?_
  try with_reducible refine kont ?_
  ((with_reducible apply wpAny_ite_true); focus (rfl; done))
  try with_reducible refine kont ?_
  with_reducible refine bindK ?_
  try with_reducible refine kont ?_
  wp_delta
  try with_reducible refine kont ?_
  ((with_reducible apply wpAny_ite_false); focus (rfl; done))
  try with_reducible refine kont ?_
  ((with_reducible apply wpAny_updatePart'); focus (heap_get; done))
  try with_reducible refine kont ?_
  with_reducible refine bindK ?_
  try with_reducible refine kont ?_
  wp_delta
  try with_reducible refine kont ?_
  ((with_reducible apply wpAny_ite_false); focus (rfl; done))
  try with_reducible refine kont ?_
  ((with_reducible apply wpAny_updatePart'); focus (heap_get; done))
  try with_reducible refine kont ?_
  wp_delta
  try with_reducible refine kont ?_
  with_reducible refine bindK ?_
  try with_reducible refine kont ?_
  wp_delta
  try with_reducible refine kont ?_
  ((with_reducible apply wpAny_ite_false); focus (rfl; done))
  try with_reducible refine kont ?_
  ((with_reducible apply wpAny_updatePart'); focus (heap_get; done))
  try with_reducible refine kont ?_
  with_reducible refine bindK ?_
  try with_reducible refine kont ?_
  wp_delta
  try with_reducible refine kont ?_
  with_reducible refine bindK ?_
  have zP := size_push h' { cls := Value.type "dict", data := Data.dict (kEs k) }
  generalize hC : (h'.push { cls := Value.type "dict", data := Data.dict (kEs k) }).objs.size = C at zP ⊢
  try with_reducible refine kont ?_
  refine absH (fun h2 => h2.get? h'.objs.size = some ⟨.type "dict", none, .dict (kEs k) 0, #[]⟩ ∧ h2.get? C = some ⟨.type "type", none, .cls { name := N.d_K, bases := [.type "object"], mro := [], ns := h'.objs.size, qualname := k.q }, #[some (.ref bt), none, some (.str N.d_K t), some (.str k.q k.tq)]⟩ ∧ Kp h' h2) ?_ ?_
  · have hne : h'.objs.size ≠ C := by lia
    subst hC
    refine ⟨?_, ?_, ?_⟩
    · heap_get
    · refine Eq.trans (Heap.get?_update_self _ (Heap.get?_update_self _ (Heap.get?_update_self _ (Heap.get?_push_size _ ?z0) ?z1) ?z2) ?z3) ?z4
      all_goals kernel_rfl
    · intro b o e
      have hb : b ≠ (h'.push { cls := Value.type "dict", data := Data.dict (kEs k) }).objs.size := by
        rw [size_push]; exact Nat.ne_of_lt (Nat.lt_succ_of_lt (Heap.lt_size e))
      exact ((Heap.SameBut.update ..).2 b hb).trans (((Heap.SameBut.update ..).2 b hb).trans (((Heap.SameBut.update ..).2 b hb).trans (Heap.get?_push_of_some _ (Heap.get?_push_of_some _ e))))
  generalize hN : h'.objs.size = Nn at zP ⊢
  try with_reducible refine kont ?_
  rintro h2 ⟨gN, gC, k2⟩
  dsimp only
  have hNC : Nn ≠ C := by lia
  try with_reducible refine kont ?_
  refine wpAny_loadPart gN ?_
  try with_reducible refine kont ?_
  with_reducible refine bindK ?_
  try with_reducible refine kont ?_
  wp_delta
  try with_reducible refine kont ?_
  with_reducible refine wpAny_pure ?_
  try with_reducible refine kont ?_
  ((with_reducible apply wpAny_ite_true); focus (rfl; done))
  try with_reducible refine kont ?_
  with_reducible refine bindK ?_
  try with_reducible refine kont ?_
  ((with_reducible apply wpAny_updatePart'); focus (heap_get; done))
  try with_reducible refine kont ?_
  with_reducible refine wpAny_pure ?_
  try with_reducible refine kont ?_
  with_reducible refine bindK ?_
  try with_reducible refine kont ?_
  wp_delta
  try with_reducible refine kont ?_
  with_reducible refine bindK ?_
  try with_reducible refine kont ?_
  ((with_reducible apply wpAny_loadPart'); focus (heap_get; done))
  try with_reducible refine kont ?_
  wp_delta
  try with_reducible refine kont ?_
  with_reducible refine wpAny_pure ?_
  try with_reducible refine kont ?_
  with_reducible refine bindK ?_
  try with_reducible refine kont ?_
  iterate 4 (wp_delta)
  try with_reducible refine kont ?_
  iterate 2 ((try with_reducible refine kont ?_); with_reducible refine bindK ?_)
  try with_reducible refine kont ?_
  wp_delta
  try with_reducible refine kont ?_
  with_reducible refine bindK ?_
  try with_reducible refine kont ?_
  ((with_reducible apply wpAny_loadPart'); focus (heap_get; done))
  try with_reducible refine kont ?_
  wp_delta
  try with_reducible refine kont ?_
  iterate 2 ((try with_reducible refine kont ?_); with_reducible refine wpAny_pure ?_)
  try with_reducible refine kont ?_
  iterate 2 (wp_delta)
  try with_reducible refine kont ?_
  iterate 2 ((try with_reducible refine kont ?_); with_reducible refine bindK ?_)
  try with_reducible refine kont ?_
  wp_delta
  try with_reducible refine kont ?_
  with_reducible refine bindK ?_
  try with_reducible refine kont ?_
  ((with_reducible apply wpAny_loadPart'); focus (heap_get; done))
  try with_reducible refine kont ?_
  wp_delta
  try with_reducible refine kont ?_
  iterate 2 ((try with_reducible refine kont ?_); with_reducible refine wpAny_pure ?_)
  try with_reducible refine kont ?_
  iterate 2 (wp_delta)
  try with_reducible refine kont ?_
  with_reducible refine wpAny_pure ?_
  try with_reducible refine kont ?_
  with_reducible refine bindK ?_
  try with_reducible refine kont ?_
  wp_delta
  try with_reducible refine kont ?_
  with_reducible refine bindK ?_
  try with_reducible refine kont ?_
  ((with_reducible apply wpAny_loadPart'); focus (heap_get; done))
  try with_reducible refine kont ?_
  wp_delta
  try with_reducible refine kont ?_
  with_reducible refine wpAny_pure ?_
  try with_reducible refine kont ?_
  with_reducible refine bindK ?_
  try with_reducible refine kont ?_
  wp_delta
  try with_reducible refine kont ?_
  with_reducible refine bindK ?_
  try with_reducible refine kont ?_
  ((with_reducible apply wpAny_loadPart'); focus (heap_get; done))
  try with_reducible refine kont ?_
  wp_delta
  try with_reducible refine kont ?_
  with_reducible refine wpAny_pure ?_
  try with_reducible refine kont ?_
  with_reducible refine bindK ?_
  try with_reducible refine kont ?_
  wp_delta
  try with_reducible refine kont ?_
  with_reducible refine bindK ?_
  have e6 := ty_type_mro
  have e7 := ob_mro
  have e8 := ob_made
  try with_reducible refine kont ?_
  with_reducible refine wpAny_of_eq (by assumption) ?_
  try with_reducible refine kont ?_
  wp_delta
  try with_reducible refine kont ?_
  with_reducible refine wpAny_pure ?_
  try with_reducible refine kont ?_
  with_reducible refine bindK ?_
  try with_reducible refine kont ?_
  wp_delta
  try with_reducible refine kont ?_
  with_reducible refine bindK ?_
  try with_reducible refine kont ?_
  iterate 2 (wp_delta)
  try with_reducible refine kont ?_
  with_reducible refine bindK ?_
  try with_reducible refine kont ?_
  with_reducible refine wpAny_of_eq (by assumption) ?_
  try with_reducible refine kont ?_
  wp_delta
  try with_reducible refine kont ?_
  with_reducible refine wpAny_pure ?_
  try with_reducible refine kont ?_
  with_reducible refine bindK ?_
  try with_reducible refine kont ?_
  iterate 4 (wp_delta)
  try with_reducible refine kont ?_
  with_reducible refine bindK ?_
  try with_reducible refine kont ?_
  ((with_reducible apply wpAny_ite_false); focus (rfl; done))
  try with_reducible refine kont ?_
  with_reducible refine wpAny_pure ?_
  try with_reducible refine kont ?_
  iterate 2 (wp_delta)
  try with_reducible refine kont ?_
  with_reducible refine wpAny_pure ?_
  try with_reducible refine kont ?_
  wp_delta
  try with_reducible refine kont ?_
  with_reducible refine wpAny_pure ?_
  try with_reducible refine kont ?_
  with_reducible refine bindK ?_
  try with_reducible refine kont ?_
  with_reducible refine wpAny_pure ?_
  try with_reducible refine kont ?_
  with_reducible refine bindK ?_
  rw [fil_ob]
  have e9 := ob_del
  try with_reducible refine kont ?_
  wp_delta
  try with_reducible refine kont ?_
  with_reducible refine bindK ?_
  try with_reducible refine kont ?_
  with_reducible refine wpAny_pure ?_
  try with_reducible refine kont ?_
  iterate 2 (wp_delta)
  try with_reducible refine kont ?_
  with_reducible refine wpAny_pure ?_
  try with_reducible refine kont ?_
  with_reducible refine bindK ?_
  try with_reducible refine kont ?_
  wp_delta
  try with_reducible refine kont ?_
  with_reducible refine bindK ?_
  try with_reducible refine kont ?_
  ((with_reducible apply wpAny_load'); focus (heap_get; done))
  try with_reducible refine kont ?_
  with_reducible refine bindK ?_
  try with_reducible refine kont ?_
  ((with_reducible apply wpAny_update'); focus (heap_get; done))
  try with_reducible refine kont ?_
  wp_delta
  try with_reducible refine kont ?_
  with_reducible refine bindK ?_
  try with_reducible refine kont ?_
  ((with_reducible apply wpAny_loadPart'); focus (heap_get; done))
  try with_reducible refine kont ?_
  wp_delta
  try with_reducible refine kont ?_
  with_reducible refine wpAny_pure ?_
  try with_reducible refine kont ?_
  with_reducible refine bindK ?_
  try with_reducible refine kont ?_
  with_reducible refine wpAny_of_eq (by assumption) ?_
  try with_reducible refine kont ?_
  with_reducible refine bindK ?_
  try with_reducible refine kont ?_
  wp_delta
  try with_reducible refine kont ?_
  ((with_reducible apply wpAny_ite_false); focus (rfl; done))
  try with_reducible refine kont ?_
  ((with_reducible apply wpAny_updatePart'); focus (heap_get; done))
  try with_reducible refine kont ?_
  with_reducible refine bindK ?_
  try with_reducible refine kont ?_
  wp_delta
  try with_reducible refine kont ?_
  with_reducible refine bindK ?_
  try with_reducible refine kont ?_
  wp_delta
  try with_reducible refine kont ?_
  with_reducible refine bindK ?_
  try with_reducible refine kont ?_
  ((with_reducible apply wpAny_loadPart'); focus (heap_get; done))
  try with_reducible refine kont ?_
  with_reducible refine wpAny_pure ?_
  try with_reducible refine kont ?_
  ((with_reducible apply wpAny_ite_false); focus (rfl; done))
  try with_reducible refine kont ?_
  with_reducible refine bindK ?_
  try with_reducible refine kont ?_
  refine absH (fun h3 => h3.get? Nn = some ⟨.type "dict", none, .dict (kEs2 k) 1, #[]⟩ ∧ h3.get? C = some ⟨.type "type", none, .cls { name := N.d_K, bases := [.type "object"], mro := [.ref C, .type "object"], ns := Nn, qualname := k.q }, #[some (.ref bt), none, some (.str N.d_K t), some (.str k.q k.tq), some (.builtin "object.__new__")]⟩ ∧ Kp h' h3) ⟨?_, ?_, ?_⟩ ?_
  · refine ((Heap.SameBut.update ..).2 Nn hNC).trans (((Heap.SameBut.update ..).2 Nn hNC).trans (Eq.trans (Heap.get?_update_self _ gN ?ya1) ?ya2))
    all_goals kernel_rfl
  · refine Eq.trans (Heap.get?_update_self _ (Heap.get?_update_self _ (((Heap.SameBut.update ..).2 C (Ne.symm hNC)).trans gC) ?yb1) ?yb2) ?yb3
    all_goals kernel_rfl
  · intro b o e
    have hb1 : b ≠ Nn := by rw [← hN]; exact Nat.ne_of_lt (Heap.lt_size e)
    have hb2 : b ≠ C := by rw [zP, ← hN]; exact Nat.ne_of_lt (Nat.lt_succ_of_lt (Heap.lt_size e))
    exact ((Heap.SameBut.update ..).2 b hb2).trans (((Heap.SameBut.update ..).2 b hb2).trans (((Heap.SameBut.update ..).2 b hb1).trans (k2 b o e)))
  clear gN gC k2
  try with_reducible refine kont ?_
  rintro h3 ⟨gN, gC, k3⟩
  dsimp only
  try with_reducible refine kont ?_
  refine tlook gC rfl rfl gN (by exact rfl) ob_new ?_
  have e10 := ob_new
  have e11 := ty_obj_weak
  show wpAny _ _ (if (!"object.__new__".endsWith ".__new__") = true then setSlotAt C 4 (some Value.none) else pure ()) _ _ _
  try with_reducible refine kont ?_
  refine wpAny_ite_false (by kernel_rfl) (wpAny_pure ?_)
  try with_reducible refine kont ?_
  refine wpAny_bind ?_
  try with_reducible refine kont ?_
  (with_reducible refine install_K' ?hbs hNC gN gC ?_); (case hbs => rfl)
  have zN := Heap.lt_size gN
  have zC := Heap.lt_size gC
  clear gN gC
  try with_reducible refine kont ?_
  intro h4 tk4 D td tr hs gN gC gD hD k4
  have hDN : D ≠ Nn := by rw [hD]; exact Nat.ne_of_gt zN
  have hDC : D ≠ C := by rw [hD]; exact Nat.ne_of_gt zC
  dsimp only
  try with_reducible refine kont ?_
  with_reducible refine bindK ?_
  try with_reducible refine kont ?_
  wp_delta
  try with_reducible refine kont ?_
  with_reducible refine bindK ?_
  try with_reducible refine kont ?_
  with_reducible refine wpAny_of_eq (by assumption) ?_
  try with_reducible refine kont ?_
  ((with_reducible apply wpAny_ite_false); focus (rfl; done))
  try with_reducible refine kont ?_
  with_reducible refine bindK ?_
  try with_reducible refine kont ?_
  with_reducible refine wpAny_of_eq (by assumption) ?_
  try with_reducible refine kont ?_
  ((with_reducible apply wpAny_ite_false); focus (rfl; done))
  try with_reducible refine kont ?_
  with_reducible refine wpAny_pure ?_
  try with_reducible refine kont ?_
  with_reducible refine bindK ?_
  try with_reducible refine kont ?_
  wp_delta
  try with_reducible refine kont ?_
  ((with_reducible apply wpAny_ite_false); focus (rfl; done))
  try with_reducible refine kont ?_
  ((with_reducible apply wpAny_updatePart'); focus (heap_get; done))
  try with_reducible refine kont ?_
  iterate 2 (((with_reducible apply wpAny_ite_false); focus (rfl; done)))
  try with_reducible refine kont ?_
  with_reducible refine bindK ?_
  try with_reducible refine kont ?_
  wp_delta
  try with_reducible refine kont ?_
  with_reducible refine bindK ?_
  try with_reducible refine kont ?_
  ((with_reducible apply wpAny_loadPart'); focus (heap_get; done))
  try with_reducible refine kont ?_
  wp_delta
  try with_reducible refine kont ?_
  with_reducible refine wpAny_pure ?_
  try with_reducible refine kont ?_
  ((with_reducible apply wpAny_ite_true); focus (rfl; done))
  try with_reducible refine kont ?_
  with_reducible refine bindK ?_
  try with_reducible refine kont ?_
  wp_delta
  try with_reducible refine kont ?_
  with_reducible refine bindK ?_
  try with_reducible refine kont ?_
  wp_delta
  try with_reducible refine kont ?_
  with_reducible refine bindK ?_
  try with_reducible refine kont ?_
  with_reducible refine wpAny_askSetting ?_
  try with_reducible refine kont ?_
  with_reducible refine wpAny_pure ?_
  try with_reducible refine kont ?_
  with_reducible refine bindK ?_
  try with_reducible refine kont ?_
  with_reducible refine wpAny_mkText ?_
  try with_reducible refine kont ?_
  with_reducible refine bindK ?_
  try with_reducible refine kont ?_
  ((with_reducible apply wpAny_loadPart'); focus (heap_get; done))
  try with_reducible refine kont ?_
  ((with_reducible apply wpAny_ite_false); focus (rfl; done))
  try with_reducible refine kont ?_
  ((with_reducible apply wpAny_updatePart'); focus (heap_get; done))
  try with_reducible refine kont ?_
  with_reducible refine bindK ?_
  try with_reducible refine kont ?_
  wp_delta
  try with_reducible refine kont ?_
  with_reducible refine bindK ?_
  try with_reducible refine kont ?_
  ((with_reducible apply wpAny_loadPart'); focus (heap_get; done))
  try with_reducible refine kont ?_
  wp_delta
  try with_reducible refine kont ?_
  with_reducible refine wpAny_pure ?_
  try with_reducible refine kont ?_
  ((with_reducible apply wpAny_ite_true); focus (rfl; done))
  try with_reducible refine kont ?_
  with_reducible refine bindK ?_
  try with_reducible refine kont ?_
  wp_delta
  try with_reducible refine kont ?_
  with_reducible refine bindK ?_
  try with_reducible refine kont ?_
  ((with_reducible apply wpAny_loadPart'); focus (heap_get; done))
  try with_reducible refine kont ?_
  wp_delta
  try with_reducible refine kont ?_
  with_reducible refine wpAny_pure ?_
  try with_reducible refine kont ?_
  ((with_reducible apply wpAny_ite_false); focus (rfl; done))
  try with_reducible refine kont ?_
  with_reducible refine bindK ?_
  try with_reducible refine kont ?_
  iterate 4 (wp_delta)
  try with_reducible refine kont ?_
  iterate 2 ((try with_reducible refine kont ?_); with_reducible refine bindK ?_)
  try with_reducible refine kont ?_
  wp_delta
  try with_reducible refine kont ?_
  ((with_reducible apply wpAny_ite_true); focus (rfl; done))
  try with_reducible refine kont ?_
  iterate 2 ((try with_reducible refine kont ?_); with_reducible refine wpAny_pure ?_)
  try with_reducible refine kont ?_
  iterate 2 (wp_delta)
  try with_reducible refine kont ?_
  with_reducible refine wpAny_pure ?_
  try with_reducible refine kont ?_
  with_reducible refine bindK ?_
  try with_reducible refine kont ?_
  refine absH (fun h5 => h5.get? Nn = some ⟨.type "dict", none, .dict (kEs4 k hs tr D (reduceHash (w.params.strHash N.d_doc.cps)) tk4) 3, #[]⟩ ∧ h5.get? C = some (clsK2 C Nn bt k t (sl6 bt k t)) ∧ h5.get? D = some (memO C td) ∧ Kp s.heap h5) ⟨?_, ?_, ?_, ?_⟩ ?_
  · refine Eq.trans (Heap.get?_update_self _ (((Heap.SameBut.update ..).2 Nn hNC).trans gN) ?yc1) ?yc2
    all_goals kernel_rfl
  · refine ((Heap.SameBut.update ..).2 C (Ne.symm hNC)).trans (Eq.trans (Heap.get?_update_self _ gC ?yd1) ?yd2)
    all_goals kernel_rfl
  · exact ((Heap.SameBut.update ..).2 D hDN).trans (((Heap.SameBut.update ..).2 D hDC).trans gD)
  · intro b o e
    have e' := kp b o e
    have hb1 : b ≠ Nn := by rw [← hN]; exact Nat.ne_of_lt (Heap.lt_size e')
    have hb2 : b ≠ C := by rw [zP, ← hN]; exact Nat.ne_of_lt (Nat.lt_succ_of_lt (Heap.lt_size e'))
    exact ((Heap.SameBut.update ..).2 b hb1).trans (((Heap.SameBut.update ..).2 b hb2).trans (k4 b o (by simp [hb1, hb2]) (k3 b o e')))
  clear gN gC gD k4 k3
  try with_reducible refine kont ?_
  rintro h5 ⟨gN, gC, gD, k5⟩
  dsimp only
  try with_reducible refine kont ?_
  refine wpAny_tryCatch (wpAny_holding ?_)
  have nC : s.heap.get? C = none := by
    cases q : s.heap.get? C with
    | none => rfl
    | some o => exact absurd (Heap.lt_size (kp _ _ q)) (by rw [hN, zP]; exact Nat.not_lt.mpr (Nat.le_succ _))
  have nN : s.heap.get? Nn = none := by
    cases q : s.heap.get? Nn with
    | none => rfl
    | some o => exact absurd (Heap.lt_size (kp _ _ q)) (by rw [hN]; exact Nat.lt_irrefl _)
  have gC' : h5.get? C = some ⟨.type "type", none, .cls { name := N.d_K, bases := [.type "object"], mro := [.ref C, .type "object"], ns := Nn, qualname := qK, hasDict := false, slotNames := [N.d_obj] }, sl6 bt k t⟩ := by rw [← hq]; exact gC
  try with_reducible refine kont ?_
  refine hooks_K ok hu gC' gN ?_ (k5 _ _ h20) ?_ rfl ?_
  · intro e he
    have hP' : ∀ v ∈ [k.v1, k.v3, .ref k.sl, .ref k.f1, .ref k.f2, .ref k.f3, .ref k.f4, .ref k.f5, .ref k.f6, k.v12], Plain ⟨h5, s.gens, s.drawn, tk4 + 1, s.os⟩ v := fun v hv => (hP v hv).kp k5
    have pN : Plain ⟨h5, s.gens, s.drawn, tk4 + 1, s.os⟩ .none := ⟨(fun _ e => by cases e), "NoneType", rfl, no_set⟩
    have pD : Plain ⟨h5, s.gens, s.drawn, tk4 + 1, s.os⟩ (.ref D) := ⟨(fun _ e => by cases e), "member_descriptor", ⟨_, gD, rfl⟩, md_set⟩
    simp only [List.mem_cons, List.not_mem_nil, or_false, forall_eq_or_imp, forall_eq] at hP'
    obtain ⟨p1, p2, p3, p4, p5, p6, p7, p8, p9, p10⟩ := hP'
    simp only [List.mem_cons, List.not_mem_nil, or_false] at he
    rcases he with rfl | rfl | rfl | rfl | rfl | rfl | rfl | rfl | rfl | rfl | rfl | rfl | rfl <;> exact ⟨⟨_, _, rfl⟩, by assumption⟩
  · intro e hp Q' E' hQ'
    refine wpAny_ite_false (by rw [hp.laid]; rfl) ?_
    obtain ⟨_, T, hT, hs⟩ := hp
    refine wpAny_bind (wpAny_specialOf hT hs ?_)
    exact wpAny_pure hQ'
  · intro h6 tk6 k6
    exact wpAny_pure (hR h6 _ C Nn D td tr hs _ tk4 nC nN (k6 _ _ gN) (k6 _ _ gC) (k6 _ _ gD) fun b o e => k6 b o (k5 b o e))
end Mine
end
section
open PySem PySem.W PySem.W.X PySem.W.XRun PyProof.Rows PySem.Calls
set_option Elab.async false
set_option maxRecDepth 100000
namespace Mine
theorem ty_can : ((Manifest.find? "type").bind (·.mro.findSome? fun t => (Manifest.find? t).bind fun b => if b.noNew then some true else if b.attrs.any (·.1 == "__new__") then some false else none)).getD false = false := by decide +kernel
theorem ty_chk (a b c : Value) : checkTypeCall "type" ⟨[a, b, c], []⟩ = pure () := by kernel_rfl
theorem ty_mro : mroOf (.type "type") = pure [.type "type", .type "object"] := by rw [mroOf_type]; kernel_rfl
theorem ty_made : Bind.madeBy (.type "type") = pure (some "type.__new__") :=
  madeBy_type ty_mro (by rw [typeLookup_type, builtinLookup_eq_fast]; kernel_rfl) (by decide +kernel)
theorem ty_entryN : entryFor table "type.__new__" = some Builtin.«type.__new__» := entryFor_of_tree (by kernel_rfl)
theorem ty_entryI : entryFor table "type.__init__" = some Builtin.«type.__init__» := entryFor_of_tree (by kernel_rfl)
theorem ty_argsI (a b c d : Value) : argsOk "type.__init__" ⟨[a, b, c, d], []⟩ := by unfold argsOk; kernel_rfl
theorem ty_slotI : Slot "type" "__init__" "type.__init__" :=
  .of (owner := "type") (n := "__init__") (by rw [typeLookup_type, builtinLookup_eq_fast]; kernel_rfl) (by decide +kernel) (by decide +kernel) (by decide +kernel) (.inl (by decide +kernel)) ty_sub_tt
theorem ty_chkN (a b c : Value) : checkBuiltinCall "type.__new__" ⟨[.type "type", a, b, c], []⟩ = pure () := by kernel_rfl
theorem tcall_if : (Value.type "type" == Value.type "type") = true := by decide +kernel
set_option maxHeartbeats 4000000 in
theorem type_call (prog : Program) (w : World) (A : Around) (ok : AOk A) (s : Shared) (t : Tok) (bt ns : Addr) (k : KIn)
   (hms : (ns == sysModules) = false) (to : Tok) (no : Nat) (hl : s.heap.get? k.sl = some ⟨.type "list", none, .seq #[.str N.d_obj to] no, #[]⟩) (hb : s.heap.get? bt = some ⟨.type "tuple", none, .seq #[.type "object"] 0, #[]⟩) (hn : s.heap.get? ns = some ⟨.type "dict", none, .dict (kEs k) k.n, #[]⟩)
   (hu : A.units ≤ 1480) (hq : k.q = qK) (h20 : s.heap.get? 2 = some ⟨.none, none, .dict #[] 0, #[]⟩) (hP : ∀ v ∈ [k.v1, k.v3, .ref k.sl, .ref k.f1, .ref k.f2, .ref k.f3, .ref k.f4, .ref k.f5, .ref k.f6, k.v12], Plain s v)
   (Q : Value → Shared → Prop) (E : Value → Shared → Prop)
   (hR : ∀ h' tk C Nn D td tr hs hd tdoc, s.heap.get? C = none → s.heap.get? Nn = none → h'.get? Nn = some ⟨.type "dict", none, .dict (kEs4 k hs tr D hd tdoc) 3, #[]⟩ → h'.get? C = some (clsK2 C Nn bt k t (sl6 bt k t)) → h'.get? D = some (memO C td) → Kp s.heap h' → Q (.ref C) { s with heap := h', toks := tk }) :
   wpAny (model prog w) A (call (.type "type") [.str N.d_K t, .ref bt, .ref ns]) Q E s := by
  have hmro := ty_mro
  have hmade := ty_made
  have hsub := ty_sub_tt
  have h1 := tcall_if
  have h2 := ty_can
  have hct := ty_chk (.str N.d_K t) (.ref bt) (.ref ns)
  refine wpAny_call (codeAny_of_tree ?_)
  show wpAny _ _ (callAny (.type "type") _) _ _ _
  refine wpAny_pure ⟨Code.quiet_builtin _ (by decide +kernel), codeAny_builtin F.entry_type_call ?_⟩
  rw [Around.under_plain (weight_type_call_type "type" _ []) rfl]
  repeat (any_goals (first | assumption | wp_step))
  refine codeAny_call_builtin (by decide +kernel) ty_entryN (wpAny_of_eq (ty_chkN _ _ _) ?_)
  refine tnew prog w A.in1.in1 ⟨ok.handled, ok.depth, by show A.units + 1 + 1 ≤ _; lia⟩ s t bt ns k hms to no hl hb hn (by show A.units + 1 + 1 ≤ _; lia) hq h20 hP _ _ ?_
  intro h' tk C Nn D td tr hs hd tdoc nC nN gN gC gD kp
  have hT : Shared.TypeIs ⟨h', s.gens, s.drawn, tk, s.os⟩ (.ref C) "type" := ⟨_, gC, rfl⟩
  have hli := ty_slotI.lookup
  have hbi := ty_slotI.bind (.ref C)
  repeat (any_goals (first | assumption | wp_step))
  refine codeAny_call_builtin (by decide +kernel) ty_entryI (ty_slotI.check _ _ _ _ _ _ _ _ hT (ty_argsI _ _ _ _) ?_)
  repeat (any_goals (first | assumption | wp_step))
  exact hR _ _ _ _ _ _ _ _ _ _ nC nN gN gC gD kp
end Mine
end
section
open PySem PySem.W PySem.W.X PySem.W.XRun PyProof.Rows PySem.Calls
set_option Elab.async false
set_option maxRecDepth 100000
namespace Mine
section

set_option maxHeartbeats 0 in
theorem prepGetM (prog : Program) (w : World) (s : Shared) (t : Tok) (h2 : s.heap.get? 2 = some ⟨.none, none, .dict #[] 0, #[]⟩) (Q : Value → Shared → Prop) (E : Value → Shared → Prop)
    (hQ : Ret Q s fun v h' => ∃ a, v = .ref a ∧ h'.get? a = some ⟨.type "builtin_function_or_method", none, .fields #[.builtin "type.__prepare__", .type "type"], #[]⟩ ∧ Kp s.heap h') :
    wpAny (model prog w) AM (call (.builtin "type.__getattribute__") [.type "type", .str ⟨#[95, 95, 112, 114, 101, 112, 97, 114, 101, 95, 95]⟩ t]) Q E s := by
  have hX := ret1 hQ fun a _ e _ k => ⟨a, rfl, e, k⟩
  x_run
end
section

set_option maxHeartbeats 0 in
theorem prepCallM (prog : Program) (w : World) (s : Shared) (b bt : Addr) (t : Tok) (hb : s.heap.get? b = some ⟨.type "builtin_function_or_method", none, .fields #[.builtin "type.__prepare__", .type "type"], #[]⟩) (hbt : s.heap.get? bt = some ⟨.type "tuple", none, .seq #[.type "object"] 0, #[]⟩) (Q : Value → Shared → Prop) (E : Value → Shared → Prop)
    (hQ : Ret Q s fun v h' => ∃ a, v = .ref a ∧ h'.get? a = some ⟨.type "dict", none, .dict #[] 0, #[]⟩ ∧ s.heap.get? a = none ∧ Kp s.heap h') :
    wpAny (model prog w) AM (call (.ref b) [.str N.d_K t, .ref bt]) Q E s := by
  have hX := ret1 hQ fun a _ e n k => ⟨a, rfl, e, n, k⟩
  x_run
end
end Mine
end
section
open PySem PySem.W PySem.W.X PySem.W.XRun PyProof.Rows PySem.Calls
set_option Elab.async false
set_option maxRecDepth 100000
namespace Mine
set_option maxHeartbeats 1000000 in
theorem reduceA {w : World} {A : Around} {E : Value → Shared → Prop} {s : Shared} {fa : Addr} {ofn : Obj} {fdn : FuncData} {seq v0 : Value} {i0 : Int} {t0 : Tok} {n : Nat} {P : Nat → Value → Heap → Heap → Prop} {Acc : Nat → Value → Prop} {ow : List Addr} {Q : Value → Shared → Prop}
    (ok : AOk A) (hu : A.units ≤ 1300) (hdp : A.depth ≤ 440) (B : Bas w.params s.heap) (hfa : s.heap.get? fa = some ofn) (hfd : ofn.data = .func fdn) (hfo : fa ∉ ow) (hv0 : v0 = .int i0 t0) (h0 : Acc 0 v0)
    (how : ∀ b ∈ ow, (K w.params).lookup b = none ∧ ∃ o, s.heap.get? b = some o)
    (hit : ∀ A' s' E', A'.handled = none → Kp s.heap s'.heap → wpAny (model prog w) A' (pyIter seq) (fun v s₁ => ∃ I h' tk fp wr St, v = .ref I ∧ s₁ = { s' with heap := h', toks := tk } ∧ Kp s'.heap h' ∧
      (∀ A'', A''.handled = none → Wk prog w A'' I fp wr n P St) ∧ St 0 h' ∧ ∀ b ∈ fp, b ∈ ow ∨ s'.heap.objs.size ≤ b) E' s')
    (hfun : ∀ i acc v g h s' A' E', A'.handled = none → A'.depth ≤ A.depth + 1 → A'.units ≤ A.units + 3 → i < n → Acc i acc → P i v g h → Off ow s.heap s'.heap → (∀ b o, g.get? b = none → h.get? b = some o → s'.heap.get? b = some o) →
      wpAny (model prog w) A' (call (.ref fa) [acc, v]) (fun r s₁ => Acc (i + 1) r ∧ ∃ h' tk, s₁ = { s' with heap := h', toks := tk } ∧ Kp s'.heap h') E' s')
    (h : ∀ v h' tk, Acc n v → Off ow s.heap h' → Q v { s with heap := h', toks := tk }) :
    wpAny (model prog w) A (call (.ref 37) [.ref fa, seq, v0]) Q E s := by
  refine A_def (hco := by rfl) (hgen := by rfl) (hk := by rfl) (hcell := by decide) [(N.n_function, .ref fa), (N.n_sequence, seq), (N.n_initial, v0)] (by lia) (B.at 37 rfl (by decide)) (by exact rfl) B.lim (B.code (c := 36) (by rfl) (by decide) (by exact rfl) (by exact rfl)) (by exact rfl) (BindsTo.of_defaults (T := 30) (by exact rfl) (B.at 30 rfl (by decide)) (by exact rfl) (by exact rfl) (by exact rfl)) (by show [N.n_initial, N.n_sequence, N.n_function].Nodup; decide) (by exact locs rfl) ?_
  rintro A' h₁ L tk ⟨a1, a2, a3⟩ hL F
  have hA' : A'.handled = none := a1.trans ok.handled
  have B1 := B.keeps F.keep
  have kp1 : Kp s.heap h₁ := F.keep
  have F1 : Fm {} h₁ L _ := F.base (fun b o e => by simp [Heap.get?] at e) (Nat.zero_le _)
  have hLs : s.heap.get? L = none := by
    cases q : s.heap.get? L with
    | none => rfl
    | some o => exact absurd (Heap.lt_size q) (by rw [hL]; exact Nat.lt_irrefl _)
  clear F
  refine wpAny_execs_cons (wpAny_Assign_Name (A_call1 (he := by rfl) (f := .builtin "iter") (lbui (hk := by rfl) (hl := by rfl) (hd := by rfl) B1.g (mg_iter _) B1.b (mb_iter _) ⟨rfl, ldF (hL := by rfl) (hk := by rfl) (hl := by rfl) (hd := by rfl) F1 (by k_mem) ⟨calB, call_iter ?_⟩⟩)))
  refine wpAny_mono (hit _ _ _ hA' kp1) (fun v s₁ hv => ?_) fun _ _ e => e
  obtain ⟨I, h₂, tk₂, fp, wr, St, rfl, rfl, k₂, W, st0, hfp⟩ := hv
  have hLlt : L < h₁.objs.size := F1.lt
  refine stF (hL := by rfl) (hk := by rfl) (hl := by rfl) [(N.n_it, .ref I), (N.n_function, .ref fa), (N.n_sequence, seq), (N.n_initial, v0)] (F1.kp k₂) rfl fun h₃ F3 k₃ => any_tok (s := s) (hp := h₃) fun tk₃ => ?_
  have hLfp : L ∉ fp := fun hm => by
    rcases hfp L hm with hm | hm
    · obtain ⟨_, o, e⟩ := how L hm; rw [hLs] at e; cases e
    · exact absurd hm (Nat.not_le.mpr hLlt)
  have kp3 : Kp s.heap h₃ := fun b o e => (k₃.2 b (fun q => by subst q; rw [hLs] at e; cases e)).trans (k₂ b o (kp1 b o e))
  have B3 := B.keeps kp3
  have st3 : St 0 h₃ := (W A' hA').frame _ _ _ st0 (fun b hb o e => (k₃.2 b (fun q => hLfp (q ▸ hb))).trans e) (Alive.of_same k₃ F3)
  clear st0 k₃ B1 kp1 k₂ F1
  subst hv0
  refine wpAny_execs_cons (wpAny_If (wpAny_isTrue_Compare1 (ldF (hL := by rfl) (hk := by rfl) (hl := by rfl) (hd := by rfl) F3 (by k_mem) (lglo (hk := by rfl) (hl := by rfl) (hd := by rfl) B3.g (mg_missing _) (wpAny_is_other rfl (by intro e; cases e) (wpAny_truthy_bool ?_))))))
  rw [if_neg (by decide)]
  refine wpAny_execs_cons (wpAny_Assign_Name (ldF (hL := by rfl) (hk := by rfl) (hl := by rfl) (hd := by rfl) F3 (by k_mem) ?_))
  refine stF (hL := by rfl) (hk := by rfl) (hl := by rfl) [(N.n_value, .int i0 t0), (N.n_it, .ref I), (N.n_function, .ref fa), (N.n_sequence, seq), (N.n_initial, .int i0 t0)] F3 rfl fun h₄ F4 k₄ => any_tok (s := s) (hp := h₄) fun tk₄ => ?_
  have kp4 : Kp s.heap h₄ := fun b o e => (k₄.2 b (fun q => by subst q; rw [hLs] at e; cases e)).trans (kp3 b o e)
  have st4 : St 0 h₄ := (W A' hA').frame _ _ _ st3 (fun b hb o e => (k₄.2 b (fun q => hLfp (q ▸ hb))).trans e) (Alive.of_same k₄ F4)
  clear st3 k₄ kp3 B3 F3
  refine wpAny_execs_nil (wpAny_execs_cons (wpAny_For (ldF (hL := by rfl) (hk := by rfl) (hl := by rfl) (hd := by rfl) F4 (by k_mem) ((W A' hA').self 0 _ _ _ st4 ?_))))
  have hwrL : L ∉ wr := fun hm => hLfp ((W A' hA').sub _ hm)
  have hsz : s.heap.objs.size ≤ h₁.objs.size := by rw [← hL]; exact Nat.le_of_lt hLlt
  have hoff : ∀ {x y : Heap}, Off ow s.heap x → Off wr x y → Off ow s.heap y := fun k k' b o hb e => k' b o (fun hm => by
    rcases hfp b ((W A' hA').sub _ hm) with hm | hm
    · exact hb hm
    · exact absurd (Nat.lt_of_lt_of_le (Heap.lt_size e) hsz) (Nat.not_lt.mpr hm)) (k b o hb e)
  have hoffL : ∀ {x y : Heap}, Off ow s.heap x → Heap.SameBut L x y → Off ow s.heap y := fun k k' b o hb e => (k'.2 b (fun q => by subst q; rw [hLs] at e; cases e)).trans (k b o hb e)
  refine forK (W A' hA') (J := fun k x => ∃ v, Fm {} x L [(N.n_value, v), (N.n_it, .ref I), (N.n_function, .ref fa)] ∧ Acc k v ∧ Off ow s.heap x) st4 ⟨_, F4.less (all3 (by k_mem) (by k_mem) (by k_mem)), h0, Off.of_kp kp4⟩ ?_ ?_ ?_
  · rintro i x y ⟨v, F, ha, k⟩ k'
    exact ⟨v, F.off k' hwrL (fun b _ => by simp [Heap.get?]), ha, hoff k k'⟩
  · rintro i v g x tk E' hi hP ⟨_, Fg, _, _⟩ hst ⟨acc, F, ha, k⟩
    refine wpAny_of_eq rfl (wpAny_assign_Name (stF (hL := by rfl) (hk := by rfl) (hl := by rfl) [(N.n_element, v), (N.n_value, acc), (N.n_it, .ref I), (N.n_function, .ref fa)] F rfl fun h₅ F5 k₅ => any_tok (s := s) (hp := h₅) fun tk₅ => absQ fun K hK => ?_))
    have o5 := hoffL k k₅
    refine wpAny_execs_cons (wpAny_Assign_Name (A_call2 (he := by rfl) (f := .ref fa) (ldF (hL := by rfl) (hk := by rfl) (hl := by rfl) (hd := by rfl) F5 (by k_mem) ⟨rfl, ldF (hL := by rfl) (hk := by rfl) (hl := by rfl) (hd := by rfl) F5 (by k_mem) (ldF (hL := by rfl) (hk := by rfl) (hl := by rfl) (hd := by rfl) F5 (by k_mem) ⟨calF (o5 fa _ hfo hfa) hfd, ?_⟩)⟩)))
    refine wpAny_mono (hfun i acc v g x _ A' _ hA' (by lia) (by lia) hi ha hP o5 (fun b o e1 e2 => (k₅.2 b (fun q => ?_)).trans e2)) (fun r s₁ hr => ?_) fun _ _ e => e
    · subst q; exact absurd e1 (by obtain ⟨m, ⟨⟨o, _, _, ho, _⟩, _, _⟩, _⟩ := Fg; rw [ho]; intro e; cases e)
    obtain ⟨ha', h₆, tk₆, rfl, k₆⟩ := hr
    refine stF (hL := by rfl) (hk := by rfl) (hl := by rfl) [(N.n_value, r), (N.n_element, v), (N.n_it, .ref I), (N.n_function, .ref fa)] (F5.kp k₆) rfl fun h₇ F7 k₇ => ?_
    refine wpAny_execs_nil (hK _ _ ⟨h₇, _, rfl, ?_, r, F7.less (all3 (by k_mem) (by k_mem) (by k_mem)), ha', hoffL (fun b o hb e => k₆ b o (o5 b o hb e)) k₇⟩)
    exact (W A' hA').frame _ _ _ hst (fun b hb o e => (k₇.2 b (fun q => hLfp (q ▸ hb))).trans (k₆ b o ((k₅.2 b (fun q => hLfp (q ▸ hb))).trans e))) ((Alive.of_same k₅ F5).trans ((Alive.of_kp k₆).trans (Alive.of_same k₇ F7)))
  · rintro x tk E' ⟨v, F, ha, k⟩
    refine wpAny_execs_nil (wpAny_execs_cons (wpAny_Return_some (ldF (hL := by rfl) (hk := by rfl) (hl := by rfl) (hd := by rfl) F (by k_mem) ?_)))
    exact h v x tk ha k
end Mine
end
section
open PySem PySem.W PySem.W.X PySem.W.XRun PyProof.Rows PySem.Calls
set_option Elab.async false
set_option maxRecDepth 100000
namespace Mine
noncomputable def Tb (h : Heap) (P : Addr) (pos : Pos) (qual : Str) : Prop :=
  ∃ ps, h.get? P = some (tabObj ps) ∧ TriplesOk ps.toList ∧ (codeAmong pos ps.toList = none ∨ ∃ c, codeAmong pos ps.toList = some (.ref c) ∧ c ≠ P ∧ h.CodeRec (.ref c) qual)
theorem Tb.kp {h h' : Heap} {P : Addr} {pos : Pos} {qual : Str} (T : Tb h P pos qual) (k : Kp h h') : Tb h' P pos qual := by
  obtain ⟨ps, e, t, r⟩ := T
  refine ⟨ps, k _ _ e, t, r.imp id fun ⟨c, x, z, y⟩ => ⟨c, x, z, y.keeps k⟩⟩
theorem tri1 {l : List Value} {q : Str} {t : Tok} (h : TriplesOk l) (v : l[1]? = some (.str q t)) : False := by
  fun_induction TriplesOk l with
  | case1 => cases v
  | case2 => cases v
  | case3 => exact h
theorem triples_snoc {l : List Value} {pos : Pos} {c : Value} (h : TriplesOk l) : TriplesOk (l ++ [rawInt pos.line, rawInt pos.col, c]) := by
  fun_induction TriplesOk l with
  | case1 => trivial
  | case2 _ _ _ _ _ _ ih => exact ih h
  | case3 => exact h.elim
theorem mkLam {M : Model} {A : Around} {E : Value → Shared → Prop} {s : Shared} {name qual : Str} {params : Arguments} {body : Expr} {scope : Scope} {env : Env} {c P : Addr} {pos : Pos} {firstLine : Nat} {mg : Str → Option Value} {Q : Value → Shared → Prop}
    (hcl : closureFor scope env = pure []) (hge0 : env.globals = mainGlobals) (hg : s.heap.Ns mainGlobals mg) (hcode : env.code = .ref c) (C : CodeHd s.heap c P) (T : Tb s.heap P pos qual) (hgP : mainGlobals ≠ P) (hb : s.heap.BuiltinsAt mg P)
    (h : ∀ f c' ctv h' tk, Off [P] s.heap h' → Tb h' P pos qual → s.heap.get? f = none → h'.get? f = some (kla_obj name qual params body scope [] ((mg "__name__").getD .none) c' ctv) → c' ≠ P → h'.CodeRec (.ref c') qual → f ≠ P → Q (.ref f) { s with heap := h', toks := tk }) :
    wpAny M A (makeFunction name qual params (.expr body) scope env [] [] [] pos firstLine) Q E s := by
  obtain ⟨ps, e, t, r⟩ := T
  have hPlt := Heap.lt_size e
  rcases r with hnf | ⟨c', hf, hc, hr⟩
  · refine kla_makeFunction hcl hge0 hg hcode C e t hnf hgP hb fun c' ctv h' tk x1 x2 x3 x4 x5 => ?_
    have hcP : c' ≠ P := fun q => by subst q; exact absurd hPlt (Nat.not_lt.mpr x2)
    have hlt' := Heap.lt_size x5
    have hsz : s.heap.objs.size ≤ h'.objs.size := Nat.le_trans x2 (Nat.le_of_lt x3)
    refine h _ c' ctv _ tk (fun b o hb e => Heap.get?_push_of_some _ (x1 b o (by simpa using hb) e)) ⟨_, Heap.get?_push_of_some _ x5, ?_, .inr ⟨c', ?_, hcP, x4.push _⟩⟩ ?_ (Heap.get?_push_size _ rfl) hcP (x4.push _) (Nat.ne_of_gt hlt')
    · simpa using triples_snoc t
    · simpa using codeAmong_snoc ps.toList t hnf
    · cases q : s.heap.get? h'.objs.size with
      | none => rfl
      | some o => exact absurd (Nat.lt_of_lt_of_le (Heap.lt_size q) hsz) (Nat.lt_irrefl _)
  · refine kla_makeFunctionHit hcl hge0 hg hcode C e t hf hb fun ctv h' tk x1 x2 => ?_
    have e' := x1 _ _ e
    refine h _ c' ctv _ tk (fun b o _ e => Heap.get?_push_of_some _ (x1 b o e)) ⟨ps, Heap.get?_push_of_some _ e', t, .inr ⟨c', hf, hc, (hr.keeps x1).push _⟩⟩ ?_ (Heap.get?_push_size _ rfl) hc ((hr.keeps x1).push _) (Nat.ne_of_gt (Heap.lt_size e'))
    cases q : s.heap.get? h'.objs.size with
    | none => rfl
    | some o => exact absurd (Nat.lt_of_lt_of_le (Heap.lt_size q) x2) (Nat.lt_irrefl _)
end Mine
end
section
open PySem PySem.W PySem.W.X PySem.W.XRun PyProof.Rows PySem.Calls
set_option Elab.async false
set_option maxRecDepth 100000
namespace Mine
theorem A_lam {prog : Program} {w : World} {A : Around} {E : Value → Shared → Prop} {Q : Value → Shared → Prop} {s : Shared} {fd : FuncData} {body : Expr}
    {a : Addr} {o : Obj} {args : List Value} (binds : List (Str × Value)) (hroom : A.depth ≤ 450) (ho : s.heap.get? a = some o) (hdata : o.data = .func fd) (hlim : s.heap.NoLimit) (hcd : s.heap.CodeRec fd.code fd.qualname)
    (hbody : fd.body = .expr body) (hbind : BindsTo s fd ⟨args, []⟩ binds) (hnd : (binds.reverse.map (·.1)).Nodup) (hloc : ∀ x ∈ binds, fd.scope.names.lookup x.1 = some .local)
    (h : ∀ A' h₁ L tk, (A'.handled = A.handled ∧ A'.depth = A.depth + 1 ∧ A'.units = A.units + 3) → L = s.heap.objs.size → Fm s.heap h₁ L binds →
      wpAny (model prog w) A' (eval body (callEnv fd L a)) Q (fun _ _ => False) { s with heap := h₁, toks := tk })
    (hco : fd.scope.isCoroutine = false) (hgen : fd.scope.isGenerator = false) (hk : fd.scope.kind = .function)
    (hcell : ∀ x ∈ fd.scope.names, x.2 ≠ .cell) : wpAny (model prog w) A (call (.ref a) args) Q E s := by
  refine wpAny_call (kla_callFunE (by show A.depth < 1000; omega) ho hdata hco hgen hbody hcd (hbind _ _ _ _ ?_))
  refine wpAny_newFunctionEnv hcell hloc (fun h₀ hns₀ hsb₀ => ⟨hlim.fresh _ hsb₀, kla_codeExpr ?_⟩) hk
  have hk' : ∀ b o, s.heap.get? b = some o → h₀.get? b = some o := fun b o e => hsb₀.extBut b o (Nat.ne_of_lt (Heap.lt_size e)) (Heap.get?_push_of_some _ e)
  exact wpAny_mono (h _ h₀ _ _ ⟨rfl, rfl, rfl⟩ rfl (Fm.of ⟨hns₀, hk', Nat.le_refl _⟩ hnd)) (fun _ _ q => q) (fun _ _ e => e.elim)
end Mine
end
section
open PySem PySem.W PySem.W.X PySem.W.XRun PyProof.Rows PySem.Calls
set_option Elab.async false
set_option maxRecDepth 100000
namespace Mine
theorem Bas.hd {P : Params} {h : Heap} (B : Bas P h) {c T : Addr} {vs : Array Value} (e : ((K P).lookup c).isSome = true) (n : c ∉ tabs) (hc : (kO P c).cls = .type "code") (hd : (kO P c).data = .fields vs) (h11 : vs[11]? = some (.ref T)) (h11' : vs.getD 11 .none = .ref T)
    {file : Str} {tf : Tok} {flags : Int} {tg : Tok} {inF : Bool} {text : Int} {tt : Tok} (h18 : vs.getD 18 .none = .str file tf) (h7 : vs.getD 7 .none = .int flags tg) (h9 : vs.getD 9 .none = .bool inF) (h10 : vs.getD 10 .none = .int text tt) (hne : c ≠ T) : CodeHd h c T :=
  ⟨_, vs, file, tf, flags, tg, inF, text, tt, B.at c e n, hc, hd, h11, h11', h18, h7, h9, h10, hne⟩
theorem Bas.hd97 {P : Params} {h : Heap} (B : Bas P h) : CodeHd h 97 93 := B.hd (by rfl) (by decide) (by kernel_rfl) (by exact rfl) (by exact rfl) (by exact rfl) (by exact rfl) (by exact rfl) (by exact rfl) (by exact rfl) (by decide)
theorem Bas.hd104 {P : Params} {h : Heap} (B : Bas P h) : CodeHd h 104 100 := B.hd (by rfl) (by decide) (by kernel_rfl) (by exact rfl) (by exact rfl) (by exact rfl) (by exact rfl) (by exact rfl) (by exact rfl) (by exact rfl) (by decide)
theorem mg_builtins (P : Params) : mg P "__builtins__" = some (.ref 4) := by kernel_rfl
end Mine
end
section
open PySem PySem.W PySem.W.X PySem.W.XRun PyProof.Rows PySem.Calls
set_option Elab.async false
set_option maxRecDepth 100000
namespace Mine
theorem Bas.bat {P : Params} {h : Heap} (B : Bas P h) {T : Addr} (hT : T ≠ 4) : h.BuiltinsAt (mg P) T :=
  ⟨4, kO P 4, mg_builtins P, by decide, by decide, Ne.symm hT, B.at 4 rfl (by decide), by kernel_rfl, by kernel_rfl, by kernel_rfl⟩
theorem mg_reduce (P : Params) : mg P N.n_reduce = some (.ref 37) := by kernel_rfl
noncomputable def num (l : List UInt8) : Nat := l.foldl (fun a x => a * 256 + x.toNat) 0
theorem num_snoc (l : List UInt8) (x : UInt8) : num (l ++ [x]) = num l * 256 + x.toNat := by simp [num]
noncomputable abbrev pos93 : Pos := ⟨97, 18, 97, 56⟩
noncomputable abbrev q93 : Str := N.n_law_number ++ ".<locals>." ++ "<lambda>"
set_option maxHeartbeats 1000000 in
theorem lnum {w : World} {A : Around} {E : Value → Shared → Prop} {s : Shared} {b : Array UInt8} {tb : Tok} {Q : Value → Shared → Prop}
    (ok : AOk A) (hu : A.units ≤ 1200) (hdp : A.depth ≤ 400) (B : Bas w.params s.heap) (hb : b.size ≤ 8) (T : Tb s.heap 93 pos93 q93)
    (h : ∀ t h' tk, Off [93] s.heap h' → Tb h' 93 pos93 q93 → Q (.int (num b.toList) t) { s with heap := h', toks := tk }) :
    wpAny (model prog w) A (call (.ref 98) [.bytes b tb]) Q E s := by
  refine A_def (hco := by rfl) (hgen := by rfl) (hk := by rfl) (hcell := by decide) [(N.n_word, .bytes b tb)] (by lia) (B.at 98 rfl (by decide)) (by exact rfl) B.lim (B.code (c := 97) (by rfl) (by decide) (by exact rfl) (by exact rfl)) (by exact rfl) (BindsTo.of_eq (by exact rfl)) (by show [N.n_word].Nodup; decide) (by exact locs rfl) ?_
  rintro A' h₁ L tk ⟨a1, a2, a3⟩ hL F
  have B1 := B.keeps F.keep
  have T1 := T.kp F.keep
  refine wpAny_execs_cons (wpAny_Return_some (A_call3 (he := by rfl) (f := .ref 37) (lglo (hk := by rfl) (hl := by rfl) (hd := by rfl) B1.g (mg_reduce _) ⟨rfl, kla_eval rfl ?_⟩)))
  refine mkLam rfl rfl B1.g rfl B1.hd97 T1 (by decide) (B1.bat (by decide)) fun f c' ctv h₂ tk₂ k₂ T2 n2 g2 hc2 cr2 hf2 => ?_
  have h93 : (93 : Nat) < s.heap.objs.size := by obtain ⟨ps, e, _⟩ := T; exact Heap.lt_size e
  have hL93 : L ≠ 93 := by rw [hL]; exact Nat.ne_of_gt h93
  have F2 : Fm {} h₂ L [(N.n_word, .bytes b tb)] := (F.base (h₁ := {}) (fun b o e => by simp [Heap.get?] at e) (Nat.zero_le _)).off k₂ (by simpa using hL93) (fun b _ => by simp [Heap.get?])
  refine ldF (hL := by rfl) (hk := by rfl) (hl := by rfl) (hd := by rfl) F2 (by k_mem) (wpAny_Constant_int ?_)
  have B2 : Bas w.params h₂ := B1.keepsBut fun b o e hb => k₂ b o (fun hm => hb (by rw [List.mem_singleton] at hm; subst hm; decide)) e
  refine ⟨calF (B2.at 37 rfl (by decide)) (by exact rfl), ?_⟩
  refine reduceA (P := fun i v _ _ => ∃ c u, b[i]? = some c ∧ v = .int (c.toNat : Int) u) (Acc := fun i v => ∃ t, v = .int (num (b.toList.take i)) t) (n := b.size) (ow := []) ⟨a1.trans ok.handled, by lia, by lia⟩ (by lia) (by lia) B2 g2 rfl (by simp) rfl ⟨_, rfl⟩ (by simp) ?_ ?_ ?_
  · intro A'' s' E' hA'' k
    refine KBw.pyIter_bytes ?_
    exact ⟨_, _, _, [s'.heap.objs.size], [s'.heap.objs.size], fun i x => KBw.IsBytesIter x s'.heap.objs.size b tb i, rfl, rfl, kp_push _ _, fun A3 h3 => Wk.of (KBw.walks h3 _ b tb), ⟨_, Heap.get?_push_size _ rfl, rfl, rfl⟩, fun x hx => .inr (by rw [List.mem_singleton] at hx; subst hx; exact Nat.le_refl _)⟩
  · rintro i acc v g x s' A'' E' hA'' d1 d2 hi ⟨t, rfl⟩ ⟨c, u, hc, rfl⟩ k _
    have ks : Kp h₂ s'.heap := fun x o e => k x o (by simp) e
    refine A_lam [(N.n_told, .int (num (b.toList.take i)) t), (N.n_octet, .int (c.toNat : Int) u)] (by lia) (ks _ _ g2) rfl (B2.keeps ks).lim (cr2.keeps ks) rfl (BindsTo.of_eq (by exact rfl)) (by show [N.n_octet, N.n_told].Nodup; decide) (by exact locs rfl) ?_ rfl rfl rfl (by exact of_decide_eq_true rfl)
    rintro A3 h₃ L3 tk3 ⟨b1, b2, b3⟩ hL3 F3
    refine wpAny_BinOp (wpAny_BinOp (ldF (hL := by rfl) (hk := by rfl) (hl := by rfl) (hd := by rfl) F3 (by k_mem) (wpAny_Constant_int (mul_int ?_ ?_))))
    · refine ldF (hL := by rfl) (hk := by rfl) (hl := by rfl) (hd := by rfl) F3 (by k_mem) (add_int ⟨⟨_, congrArg (fun z => Value.int z _) ?_⟩, _, _, rfl, F3.keep⟩)
      have e1 : b.toList.take (i + 1) = b.toList.take i ++ [c] := by
        rw [List.take_add_one]
        have : b.toList[i]? = some c := by simpa using hc
        rw [this]; rfl
      rw [e1, num_snoc]; push_cast; first | rfl | lia
    · exact IntMulOk.of_right (by decide)
  · rintro v h' tk' ⟨t, rfl⟩ k
    have e : b.toList.take b.size = b.toList := by rw [← Array.length_toList]; exact List.take_length
    rw [e]
    exact h t h' tk' (fun x o hx e => k x o (by simp) (k₂ x o hx (F.keep x o e))) (T2.kp fun x o e => k x o (by simp) e)
end Mine
end
section
open PySem PySem.W PySem.W.X PySem.W.XRun PyProof.Rows PySem.Calls
set_option Elab.async false
set_option maxRecDepth 100000
namespace Mine
noncomputable abbrev dO (es : Array DictEntry) (n : Nat) : Obj := ⟨.type "dict", none, .dict es n, #[]⟩
theorem put_push {es : Array DictEntry} {n : Nat} {nm : Str} {hs : Int} {key v : Value} (h : (es.all fun e => !e.key.isStr nm) = true) :
    Obj.putName nm hs key v (dO es n) = dO (es.push ⟨hs, key, v⟩) (n + 1) := by
  rw [Obj.putName_eq]
  have : es.findIdx? (·.key.isStr nm) = none := by
    rw [Array.findIdx?_eq_none_iff]
    intro e he
    have := Array.all_eq_true_iff_forall_mem.mp h e he
    simpa using this
  simp only [Obj.putNameByArray, this]
theorem locSet {M : Model} {A : Around} {E : Value → Shared → Prop} {s : Shared} {env : Env} {nm : Str} {v : Value} {es : Array DictEntry} {n : Nat} {Q : Unit → Shared → Prop} (ho : s.heap.get? env.locals = some (dO es n)) (hr : aRefKeyMayBeTheName nm es = false)
    (hn : (es.all fun e => !e.key.isStr nm) = true)
    (h : ∀ hs t h', h'.get? env.locals = some (dO (es.push ⟨hs, .str nm t, v⟩) (n + 1)) → Heap.SameBut env.locals s.heap h' → Q () { s with heap := h', toks := s.toks + 1 }) : wpAny M A (localSet env nm v) Q E s := by
  unfold localSet
  refine wpAny_bind (wpAny_load ho ?_)
  rw [if_pos (by rfl)]
  exact nsSetE (fun hs t => dO (es.push ⟨hs, .str nm t, v⟩) (n + 1)) ho rfl hr (fun _ _ => put_push hn) (fun _ _ => rfl) h
theorem Bas.offK {P : Params} {h h' : Heap} {wr : List Addr} (B : Bas P h) (k : Off wr h h') (hw : ∀ b ∈ wr, b ∈ tabs ∨ (K P).lookup b = none) : Bas P h' :=
  fun a o e n => k a o (fun hm => by rcases hw a hm with x | x; exact n x; rw [x] at e; cases e) (B a o e n)
structure Trp (ps : Array Value) : Prop where
  out : TriplesOk ps.toList
theorem defStep {w : World} {A : Around} {E : Value → Shared → Prop} {s : Shared} {env : Env} {nm : Str} {params : Arguments} {body : List Stmt} {scope : Scope} {pos : Pos} {X Y : Addr} {ps : Array Value} {es : Array DictEntry} {n : Nat} {clos : List (Str × Addr)} {Q : Flow → Shared → Prop}
    (hd0 : params.defaults = []) (hk0 : params.kw_defaults = []) (ha : annTrees params none env = []) (hst : ∀ v, storeName env nm v = localSet env nm v) (hge : env.globals = mainGlobals) (hcode : env.code = .ref X) (hcl : closureFor scope env = pure clos)
    (B : Bas w.params s.heap) (C : CodeHd s.heap X Y) (hY : s.heap.get? Y = some (tabObj ps)) (ht : Trp ps) (hnf : codeAmong pos ps.toList = none) (hYK : (K w.params).lookup Y = none)
    (ho : s.heap.get? env.locals = some (dO es n)) (hnY : env.locals ≠ Y) (hr : aRefKeyMayBeTheName nm es = false) (hn : (es.all fun e => !e.key.isStr nm) = true)
    (h : ∀ f c' ctv doc h' tk hs tn, h'.get? f = some (fnMade nm (qualnameIn env nm nm) params body scope clos doc ((mg w.params "__name__").getD .none) c' ctv) → s.heap.get? f = none → s.heap.get? c' = none → h'.CodeRec (.ref c') (qualnameIn env nm nm) →
      h'.get? Y = some (tabObj (ps ++ #[rawInt pos.line, rawInt pos.col, .ref c'])) → h'.get? env.locals = some (dO (es.push ⟨hs, .str nm tn, .ref f⟩) (n + 1)) → Off [Y, env.locals] s.heap h' → Q .next { s with heap := h', toks := tk }) :
    wpAny (model prog w) A (exec (.FunctionDef nm params body [] none [] scope none nm pos) env) Q E s := by
  refine nestDef_K hd0 hk0 ha ?_
  have hg3 : mainGlobals ≠ Y := fun q => by rw [← q] at hYK; exact absurd hYK (by rw [show (K w.params).lookup mainGlobals = some (kO w.params 3) from by kernel_rfl]; intro e; cases e)
  have hY4 : Y ≠ 4 := fun q => by rw [q] at hYK; exact absurd hYK (by rw [show (K w.params).lookup 4 = some (kO w.params 4) from by kernel_rfl]; intro e; cases e)
  refine makeFunction_K hcl hge B.g hcode C hY ht.out hnf hg3 (B.bat hY4) fun c' ctv doc h₁ tk hx hc1 hc2 hrec htab => ?_
  rw [hst]
  have ho1 : (h₁.push (fnMade nm (qualnameIn env nm nm) params body scope clos doc ((mg w.params "__name__").getD .none) c' ctv)).get? env.locals = some (dO es n) := Heap.get?_push_of_some _ (hx _ _ hnY ho)
  have hsz : s.heap.objs.size ≤ h₁.objs.size := Nat.le_trans hc1 (Nat.le_of_lt hc2)
  have hfl : h₁.objs.size ≠ env.locals := fun q => absurd (Nat.lt_of_lt_of_le (Heap.lt_size ho) hsz) (by rw [← q]; exact Nat.lt_irrefl _)
  refine locSet ho1 hr hn fun hs t h₂ g₂ k₂ => ?_
  refine h h₁.objs.size c' ctv doc h₂ _ hs t ((k₂.2 _ hfl).trans (Heap.get?_push_size _ rfl)) ?_ ?_ ?_ ((k₂.2 _ (Ne.symm hnY)).trans (Heap.get?_push_of_some _ htab)) g₂ ?_
  · cases q : s.heap.get? h₁.objs.size with
    | none => rfl
    | some o => exact absurd (Nat.lt_of_lt_of_le (Heap.lt_size q) hsz) (Nat.lt_irrefl _)
  · cases q : s.heap.get? c' with
    | none => rfl
    | some o => exact absurd (Nat.lt_of_lt_of_le (Heap.lt_size q) hc1) (Nat.lt_irrefl _)
  · obtain ⟨c₂, o₂, vs₂, t₂, e₂, g₂', d₂, v₂⟩ := hrec
    refine ⟨c₂, o₂, vs₂, t₂, e₂, (k₂.2 _ fun q => ?_).trans (Heap.get?_push_of_some _ g₂'), d₂, v₂⟩
    have e3 := hx _ _ hnY ho
    rw [← q, g₂'] at e3
    cases e3; cases d₂
  · intro b o hb e
    simp only [List.mem_cons, List.not_mem_nil, or_false, not_or] at hb
    exact (k₂.2 b hb.2).trans (Heap.get?_push_of_some _ (hx b o hb.1 e))
theorem trip_app {ps : Array Value} {pos : Pos} {c : Value} (t : Trp ps) : Trp (ps ++ #[rawInt pos.line, rawInt pos.col, c]) := ⟨by simpa using triples_snoc t.out⟩
end Mine
end
section
open PySem PySem.W PySem.W.X PySem.W.XRun PyProof.Rows PySem.Calls
set_option Elab.async false
set_option maxRecDepth 100000
namespace Mine
noncomputable def fdK (P : Params) : FuncData := match (kO P 28).data with | .func fd => fd | _ => default
noncomputable def stK (P : Params) : Stmt := match (fdK P).body with | .stmts (x :: _) => x | _ => .Pass default
noncomputable def e0 : Expr := .Constant .none 0 default
noncomputable def sP : Stmt → List Expr × Expr × List Stmt × Scope × List Str × Arguments
  | .ClassDef _ bs _ b _ _ s _ _ st _ => (bs, e0, b, s, st, default)
  | .FunctionDef _ a b _ _ _ s _ _ _ => ([], e0, b, s, [], a)
  | .Assign ts v _ => (ts, v, [], default, [], default)
  | .Return e _ => (e.toList, e0, [], default, [], default)
  | _ => ([], e0, [], default, [], default)
noncomputable def cB (P : Params) : List Stmt := (sP (stK P)).2.2.1
noncomputable def cS (P : Params) : Scope := (sP (stK P)).2.2.2.1
noncomputable def cSt (P : Params) : List Str := (sP (stK P)).2.2.2.2.1
noncomputable def cP (P : Params) : Pos := (stK P).pos
noncomputable def cI (P : Params) (i : Nat) : Stmt := (cB P).getD i (.Pass default)
noncomputable def dPar (s : Stmt) : Arguments := (sP s).2.2.2.2.2
noncomputable def dBod (s : Stmt) : List Stmt := (sP s).2.2.1
noncomputable def dSco (s : Stmt) : Scope := (sP s).2.2.2.1
noncomputable def dPos (s : Stmt) : Pos := s.pos
theorem cB_eq (P : Params) : cB P = [cI P 0, cI P 1, cI P 2, cI P 3, cI P 4, cI P 5, cI P 6, cI P 7, cI P 8] := by kernel_rfl
noncomputable abbrev cEnv (P : Params) (ns X fr cm : Addr) : Env := { scope := cS P, locals := ns, globals := mainGlobals, cells := [(N.n_mycmp, cm)], qual := qK ++ ".", code := .ref X, frame := some fr, builtins := builtinsNs }
theorem def1 (P : Params) : cI P 2 = .FunctionDef N.d_init (dPar (cI P 2)) (dBod (cI P 2)) [] none [] (dSco (cI P 2)) none N.d_init (dPos (cI P 2)) := by kernel_rfl
theorem def2 (P : Params) : cI P 3 = .FunctionDef N.d_lt (dPar (cI P 3)) (dBod (cI P 3)) [] none [] (dSco (cI P 3)) none N.d_lt (dPos (cI P 3)) := by kernel_rfl
theorem def3 (P : Params) : cI P 4 = .FunctionDef N.d_gt (dPar (cI P 4)) (dBod (cI P 4)) [] none [] (dSco (cI P 4)) none N.d_gt (dPos (cI P 4)) := by kernel_rfl
theorem def4 (P : Params) : cI P 5 = .FunctionDef N.d_eq (dPar (cI P 5)) (dBod (cI P 5)) [] none [] (dSco (cI P 5)) none N.d_eq (dPos (cI P 5)) := by kernel_rfl
theorem def5 (P : Params) : cI P 6 = .FunctionDef N.d_le (dPar (cI P 6)) (dBod (cI P 6)) [] none [] (dSco (cI P 6)) none N.d_le (dPos (cI P 6)) := by kernel_rfl
theorem def6 (P : Params) : cI P 7 = .FunctionDef N.d_ge (dPar (cI P 7)) (dBod (cI P 7)) [] none [] (dSco (cI P 7)) none N.d_ge (dPos (cI P 7)) := by kernel_rfl
noncomputable def aVal (s : Stmt) : Expr := (sP s).2.1
noncomputable def aPos (s : Stmt) : Pos := s.pos
noncomputable def aTp (s : Stmt) : Pos := ((sP s).1.headD e0).pos
noncomputable def eP : Expr → Const × List Expr
  | .Constant c _ _ => (c, [])
  | .List l _ => (.none, l)
  | _ => (.none, [])
noncomputable def eStr (e : Expr) : Str := match (eP e).1 with | .str v => v | _ => default
noncomputable def ePos (e : Expr) : Pos := e.pos
noncomputable def eHd (e : Expr) : Expr := (eP e).2.headD e0
theorem asg0 (P : Params) : cI P 0 = .Assign [.Name N.d_module (aTp (cI P 0))] (.Constant (.str (eStr (aVal (cI P 0)))) 0 (ePos (aVal (cI P 0)))) (aPos (cI P 0)) := by kernel_rfl
theorem asg1 (P : Params) : cI P 1 = .Assign [.Name N.d_slots (aTp (cI P 1))] (.List [.Constant (.str N.d_obj) 0 (ePos (eHd (aVal (cI P 1))))] (ePos (aVal (cI P 1)))) (aPos (cI P 1)) := by kernel_rfl
theorem asg8 (P : Params) : cI P 8 = .Assign [.Name N.d_hash (aTp (cI P 8))] (.Constant .none 0 (ePos (aVal (cI P 8)))) (aPos (cI P 8)) := by kernel_rfl
theorem locSetOld {M : Model} {A : Around} {E : Value → Shared → Prop} {s : Shared} {env : Env} {nm : Str} {v : Value} {es : Array DictEntry} {n : Nat} {Q : Unit → Shared → Prop} (es' : Array DictEntry) (ho : s.heap.get? env.locals = some (dO es n)) (hr : aRefKeyMayBeTheName nm es = false)
    (hn : ∀ hs t, Obj.putName nm hs (.str nm t) v (dO es n) = dO es' n)
    (h : ∀ h', h'.get? env.locals = some (dO es' n) → Heap.SameBut env.locals s.heap h' → Q () { s with heap := h', toks := s.toks + 1 }) : wpAny M A (localSet env nm v) Q E s := by
  unfold localSet
  refine wpAny_bind (wpAny_load ho ?_)
  rw [if_pos (by rfl)]
  exact nsSetE (fun hs t => dO es' n) ho rfl hr hn (fun _ _ => rfl) fun _ _ h' a b => h h' a b
structure CB (w : World) (h₀ h : Heap) (ns X Y : Addr) (ps : Array Value) (es : Array DictEntry) (n : Nat) : Prop where
  B : Bas w.params h
  C : CodeHd h X Y
  hY : h.get? Y = some (tabObj ps)
  ho : h.get? ns = some (dO es n)
  off : Off [Y, ns] h₀ h
  ht : Trp ps
section
variable {w : World} {h₀ h h' : Heap} {ns X Y : Addr} {ps ps' : Array Value} {es es' : Array DictEntry} {n n' : Nat}
theorem CB.next (c : CB w h₀ h ns X Y ps es n) (hXY : X ≠ Y) (hXn : X ≠ ns) (hYK : (K w.params).lookup Y = none) (hnK : (K w.params).lookup ns = none) (k : Off [Y, ns] h h') (hY : h'.get? Y = some (tabObj ps')) (ho : h'.get? ns = some (dO es' n')) (ht : Trp ps') : CB w h₀ h' ns X Y ps' es' n' := by
  refine ⟨c.B.offK k (fun b hb => ?_), ?_, hY, ho, fun b o hb e => k b o hb (c.off b o hb e), ht⟩
  · simp only [List.mem_cons, List.not_mem_nil, or_false] at hb
    rcases hb with rfl | rfl
    · exact .inr hYK
    · exact .inr hnK
  · obtain ⟨o, vs, file, tf, flags, tg, inF, text, tt, e, r⟩ := c.C
    exact ⟨o, vs, file, tf, flags, tg, inF, text, tt, k _ _ (by simp [hXY, hXn]) e, r⟩
theorem CB.nextS (c : CB w h₀ h ns X Y ps es n) (hXY : X ≠ Y) (hXn : X ≠ ns) (hnY : ns ≠ Y) (hYK : (K w.params).lookup Y = none) (hnK : (K w.params).lookup ns = none) (k : Heap.SameBut ns h h') (ho : h'.get? ns = some (dO es' n')) : CB w h₀ h' ns X Y ps es' n' :=
  c.next hXY hXn hYK hnK (fun b o hb e => (k.2 b (by simp only [List.mem_cons, List.not_mem_nil, or_false, not_or] at hb; exact hb.2)).trans e) ((k.2 _ (Ne.symm hnY)).trans c.hY) ho c.ht
end
end Mine
end
section
open PySem PySem.W PySem.W.X PySem.W.XRun PyProof.Rows PySem.Calls
set_option Elab.async false
set_option maxRecDepth 100000
namespace Mine
noncomputable abbrev kEs11 (k : KIn) : Array DictEntry := #[⟨k.h1, .str N.d_module k.t1, k.v1⟩, ⟨k.h2, .str N.d_qualname k.t2, .str k.q k.tq⟩, ⟨k.h3, .str N.d_firstlineno k.t3, k.v3⟩, ⟨k.h4, .str N.d_slots k.t4, .ref k.sl⟩,
  ⟨k.h5, .str N.d_init k.t5, .ref k.f1⟩, ⟨k.h6, .str N.d_lt k.t6, .ref k.f2⟩, ⟨k.h7, .str N.d_gt k.t7, .ref k.f3⟩, ⟨k.h8, .str N.d_eq k.t8, .ref k.f4⟩, ⟨k.h9, .str N.d_le k.t9, .ref k.f5⟩, ⟨k.h10, .str N.d_ge k.t10, .ref k.f6⟩,
  ⟨k.h11, .str N.d_hash k.t11, .none⟩]
noncomputable abbrev es3 (h1 h2 h3 : Int) (t1 t2 t3 tq : Tok) (v1 v3 : Value) : Array DictEntry := #[⟨h1, .str N.d_module t1, v1⟩, ⟨h2, .str N.d_qualname t2, .str qK tq⟩, ⟨h3, .str N.d_firstlineno t3, v3⟩]
noncomputable abbrev fO (w : World) (ns X fr cm : Addr) (nm : Str) (i : Nat) (clos : List (Str × Addr)) (doc : Value) (c : Addr) (ctv : Value) : Obj :=
  fnMade nm (qualnameIn (cEnv w.params ns X fr cm) nm nm) (dPar (cI w.params i)) (dBod (cI w.params i)) (dSco (cI w.params i)) clos doc ((mg w.params "__name__").getD .none) c ctv
noncomputable def IsFn (h : Heap) (f : Addr) : Prop := ∃ o, h.get? f = some o ∧ o.cls = .type "function"
structure KOut (w : World) (h : Heap) (ns X fr cm : Addr) (k : KIn) (es : Array DictEntry) (n : Nat) : Prop where
  q : k.q = qK
  v1 : ∃ t, k.v1 = .str (eStr (aVal (cI w.params 0))) t
  ho : h.get? ns = some (dO es n)
  sl : ∃ t m, h.get? k.sl = some ⟨.type "list", none, .seq #[.str N.d_obj t] m, #[]⟩
  f1 : ∃ doc c ctv, h.get? k.f1 = some (fO w ns X fr cm N.d_init 2 [] doc c ctv) ∧ h.CodeRec (.ref c) (qualnameIn (cEnv w.params ns X fr cm) N.d_init N.d_init)
  f2 : ∃ doc c ctv, h.get? k.f2 = some (fO w ns X fr cm N.d_lt 3 [(N.n_mycmp, cm)] doc c ctv) ∧ h.CodeRec (.ref c) (qualnameIn (cEnv w.params ns X fr cm) N.d_lt N.d_lt)
  f3 : IsFn h k.f3
  f4 : IsFn h k.f4
  f5 : IsFn h k.f5
  f6 : IsFn h k.f6
theorem off_get {h h' : Heap} {Y ns a : Addr} {o : Obj} (k : Off [Y, ns] h h') (e : h.get? a = some o) (h1 : a ≠ Y) (h2 : a ≠ ns) : h'.get? a = some o := k a o (by simp [h1, h2]) e
theorem ne_of_gone {h : Heap} {a b : Addr} {o : Obj} (e : h.get? a = none) (e' : h.get? b = some o) : a ≠ b := by
  rintro rfl; rw [e] at e'; cases e'
theorem rec_off {h h' : Heap} {Y ns c : Addr} {q : Str} (r : h.CodeRec (.ref c) q) (k : Off [Y, ns] h h') (h1 : c ≠ Y) (h2 : c ≠ ns) : h'.CodeRec (.ref c) q := by
  obtain ⟨c₂, o₂, vs₂, t₂, e₂, g₂, r₂⟩ := r
  cases e₂
  exact ⟨_, o₂, vs₂, t₂, rfl, off_get k g₂ h1 h2, r₂⟩
set_option maxHeartbeats 1000000 in
theorem clsBody {w : World} {A : Around} {E : Value → Shared → Prop} {s : Shared} {ns X Y fr cm : Addr} {h1 h2 h3 : Int} {t1 t2 t3 tq : Tok} {v1 v3 : Value} {n : Nat} {Q : Flow → Shared → Prop}
    (B : Bas w.params s.heap) (C : CodeHd s.heap X Y) (hXY : X ≠ Y) (hXn : X ≠ ns) (hnY : ns ≠ Y) (hYK : (K w.params).lookup Y = none) (hnK : (K w.params).lookup ns = none)
    (hY : s.heap.get? Y = some (tabObj #[])) (ho : s.heap.get? ns = some (dO (es3 h1 h2 h3 t1 t2 t3 tq v1 v3) n))
    (h : ∀ k h' tk, KOut w h' ns X fr cm k (kEs11 k) (n + 8) → k.v3 = v3 → (∃ o, h'.get? Y = some o) → Off [Y, ns] s.heap h' → Bas w.params h' → Q .next { s with heap := h', toks := tk }) :
    wpAny (model prog w) A (execs (cB w.params) (cEnv w.params ns X fr cm)) Q E s := by
  rw [cB_eq]
  have c0 : CB w s.heap s.heap ns X Y #[] (es3 h1 h2 h3 t1 t2 t3 tq v1 v3) n := ⟨B, C, hY, ho, fun _ _ _ e => e, ⟨trivial⟩⟩
  refine wpAny_execs_cons ?_
  rw [asg0]
  refine wpAny_Assign_Name (wpAny_Constant_str ?_) (by kernel_rfl)
  rw [show ∀ v, storeName (cEnv w.params ns X fr cm) N.d_module v = localSet (cEnv w.params ns X fr cm) N.d_module v from fun v => by kernel_rfl]
  refine locSetOld (es3 h1 h2 h3 t1 t2 t3 tq (.str (eStr (aVal (cI w.params 0))) s.toks) v3) ho (by kernel_rfl) (fun _ _ => by kernel_rfl) fun ha g k => ?_
  have c1 := c0.nextS hXY hXn hnY hYK hnK k g
  clear c0 g k
  refine wpAny_execs_cons ?_
  rw [asg1]
  refine wpAny_Assign_Name ?_ (by kernel_rfl)
  rw [arm_eval_List]
  refine wpAny_bind (wpAny_standAt (wpAny_bind ?_))
  refine spliced_cons (wpAny_Constant_str (k := 0) (pos := default) (spliced_nil (wpAny_newList ?_)))
  rw [show ∀ v, storeName (cEnv w.params ns X fr cm) N.d_slots v = localSet (cEnv w.params ns X fr cm) N.d_slots v from fun v => by kernel_rfl]
  generalize hsl : ha.objs.size = sl
  have gsl : (ha.push ⟨.type "list", none, .seq #[.str N.d_obj (s.toks + 1 + 1)] 0, #[]⟩).get? sl = some ⟨.type "list", none, .seq #[.str N.d_obj (s.toks + 1 + 1)] 0, #[]⟩ := hsl ▸ Heap.get?_push_size _ rfl
  have c2 := c1.next hXY hXn hYK hnK (fun b o _ e => Heap.get?_push_of_some ⟨.type "list", none, .seq #[.str N.d_obj (s.toks + 1 + 1)] 0, #[]⟩ e) (Heap.get?_push_of_some _ c1.hY) (Heap.get?_push_of_some _ c1.ho) c1.ht
  have nY : sl ≠ Y := fun q => by subst q; exact absurd (Heap.lt_size c1.hY) (by rw [hsl]; exact Nat.lt_irrefl _)
  have nN : sl ≠ ns := fun q => by subst q; exact absurd (Heap.lt_size c1.ho) (by rw [hsl]; exact Nat.lt_irrefl _)
  clear c1
  refine locSet c2.ho (by kernel_rfl) (by kernel_rfl) fun h4 t4 hb g k => ?_
  have c3 := c2.nextS hXY hXn hnY hYK hnK k g
  have gsl := (k.2 _ nN).trans gsl
  clear c2 g k
  -- def init
  refine wpAny_execs_cons ?_
  rw [def1]
  refine defStep (clos := []) (by kernel_rfl) (by kernel_rfl) (by kernel_rfl) (fun v => by kernel_rfl) rfl rfl (by kernel_rfl) c3.B c3.C c3.hY c3.ht (by kernel_rfl) hYK c3.ho hnY (by kernel_rfl) (by kernel_rfl) ?_
  intro f1 cc1 ctv1 doc1 hd1 tk1 h5 t5 gf1 nf1 nc1 rec1 gY gN off
  dsimp only
  have c4 := c3.next hXY hXn hYK hnK off gY gN (trip_app c3.ht)
  have fY1 : f1 ≠ Y := ne_of_gone nf1 c3.hY
  have fN1 : f1 ≠ ns := ne_of_gone nf1 c3.ho
  have gsl := off_get off gsl nY nN
  have rY1 : cc1 ≠ Y := ne_of_gone nc1 c3.hY
  have rN1 : cc1 ≠ ns := ne_of_gone nc1 c3.ho
  clear c3 gY gN off
  -- def lt
  refine wpAny_execs_cons ?_
  rw [def2]
  refine defStep (clos := [(N.n_mycmp, cm)]) (by kernel_rfl) (by kernel_rfl) (by kernel_rfl) (fun v => by kernel_rfl) rfl rfl (by kernel_rfl) c4.B c4.C c4.hY c4.ht (by kernel_rfl) hYK c4.ho hnY (by kernel_rfl) (by kernel_rfl) ?_
  intro f2 cc2 ctv2 doc2 hd2 tk2 h6 t6 gf2 nf2 nc2 rec2 gY gN off
  dsimp only
  have c5 := c4.next hXY hXn hYK hnK off gY gN (trip_app c4.ht)
  have fY2 : f2 ≠ Y := ne_of_gone nf2 c4.hY
  have fN2 : f2 ≠ ns := ne_of_gone nf2 c4.ho
  have gsl := off_get off gsl nY nN
  have gf1 := off_get off gf1 fY1 fN1
  have rY2 : cc2 ≠ Y := ne_of_gone nc2 c4.hY
  have rN2 : cc2 ≠ ns := ne_of_gone nc2 c4.ho
  have rec1 := rec_off rec1 off rY1 rN1
  clear c4 gY gN off
  -- def gt
  refine wpAny_execs_cons ?_
  rw [def3]
  refine defStep (clos := [(N.n_mycmp, cm)]) (by kernel_rfl) (by kernel_rfl) (by kernel_rfl) (fun v => by kernel_rfl) rfl rfl (by kernel_rfl) c5.B c5.C c5.hY c5.ht (by kernel_rfl) hYK c5.ho hnY (by kernel_rfl) (by kernel_rfl) ?_
  intro f3 cc3 ctv3 doc3 hd3 tk3 h7 t7 gf3 nf3 nc3 rec3 gY gN off
  dsimp only
  have c6 := c5.next hXY hXn hYK hnK off gY gN (trip_app c5.ht)
  have fY3 : f3 ≠ Y := ne_of_gone nf3 c5.hY
  have fN3 : f3 ≠ ns := ne_of_gone nf3 c5.ho
  have gsl := off_get off gsl nY nN
  have gf1 := off_get off gf1 fY1 fN1
  have gf2 := off_get off gf2 fY2 fN2
  have rec1 := rec_off rec1 off rY1 rN1
  have rec2 := rec_off rec2 off rY2 rN2
  clear c5 gY gN off
  -- def eq
  refine wpAny_execs_cons ?_
  rw [def4]
  refine defStep (clos := [(N.n_mycmp, cm)]) (by kernel_rfl) (by kernel_rfl) (by kernel_rfl) (fun v => by kernel_rfl) rfl rfl (by kernel_rfl) c6.B c6.C c6.hY c6.ht (by kernel_rfl) hYK c6.ho hnY (by kernel_rfl) (by kernel_rfl) ?_
  intro f4 cc4 ctv4 doc4 hd4 tk4 h8 t8 gf4 nf4 nc4 rec4 gY gN off
  dsimp only
  have c7 := c6.next hXY hXn hYK hnK off gY gN (trip_app c6.ht)
  have fY4 : f4 ≠ Y := ne_of_gone nf4 c6.hY
  have fN4 : f4 ≠ ns := ne_of_gone nf4 c6.ho
  have gsl := off_get off gsl nY nN
  have gf1 := off_get off gf1 fY1 fN1
  have gf2 := off_get off gf2 fY2 fN2
  have gf3 := off_get off gf3 fY3 fN3
  have rec1 := rec_off rec1 off rY1 rN1
  have rec2 := rec_off rec2 off rY2 rN2
  clear c6 gY gN off
  -- def le
  refine wpAny_execs_cons ?_
  rw [def5]
  refine defStep (clos := [(N.n_mycmp, cm)]) (by kernel_rfl) (by kernel_rfl) (by kernel_rfl) (fun v => by kernel_rfl) rfl rfl (by kernel_rfl) c7.B c7.C c7.hY c7.ht (by kernel_rfl) hYK c7.ho hnY (by kernel_rfl) (by kernel_rfl) ?_
  intro f5 cc5 ctv5 doc5 hd5 tk5 h9 t9 gf5 nf5 nc5 rec5 gY gN off
  dsimp only
  have c8 := c7.next hXY hXn hYK hnK off gY gN (trip_app c7.ht)
  have fY5 : f5 ≠ Y := ne_of_gone nf5 c7.hY
  have fN5 : f5 ≠ ns := ne_of_gone nf5 c7.ho
  have gsl := off_get off gsl nY nN
  have gf1 := off_get off gf1 fY1 fN1
  have gf2 := off_get off gf2 fY2 fN2
  have gf3 := off_get off gf3 fY3 fN3
  have gf4 := off_get off gf4 fY4 fN4
  have rec1 := rec_off rec1 off rY1 rN1
  have rec2 := rec_off rec2 off rY2 rN2
  clear c7 gY gN off
  -- def ge
  refine wpAny_execs_cons ?_
  rw [def6]
  refine defStep (clos := [(N.n_mycmp, cm)]) (by kernel_rfl) (by kernel_rfl) (by kernel_rfl) (fun v => by kernel_rfl) rfl rfl (by kernel_rfl) c8.B c8.C c8.hY c8.ht (by kernel_rfl) hYK c8.ho hnY (by kernel_rfl) (by kernel_rfl) ?_
  intro f6 cc6 ctv6 doc6 hd6 tk6 h10 t10 gf6 nf6 nc6 rec6 gY gN off
  dsimp only
  have c9 := c8.next hXY hXn hYK hnK off gY gN (trip_app c8.ht)
  have fY6 : f6 ≠ Y := ne_of_gone nf6 c8.hY
  have fN6 : f6 ≠ ns := ne_of_gone nf6 c8.ho
  have gsl := off_get off gsl nY nN
  have gf1 := off_get off gf1 fY1 fN1
  have gf2 := off_get off gf2 fY2 fN2
  have gf3 := off_get off gf3 fY3 fN3
  have gf4 := off_get off gf4 fY4 fN4
  have gf5 := off_get off gf5 fY5 fN5
  have rec1 := rec_off rec1 off rY1 rN1
  have rec2 := rec_off rec2 off rY2 rN2
  clear c8 gY gN off
  refine wpAny_execs_cons ?_
  rw [asg8]
  refine wpAny_Assign_Name (wpAny_Constant_none ?_) (by kernel_rfl)
  rw [show ∀ v, storeName (cEnv w.params ns X fr cm) N.d_hash v = localSet (cEnv w.params ns X fr cm) N.d_hash v from fun v => by kernel_rfl]
  refine locSet c9.ho (by kernel_rfl) (by kernel_rfl) fun h11 t11 he g k => ?_
  have c10 := c9.nextS hXY hXn hnY hYK hnK k g
  refine wpAny_execs_nil ?_
  refine h ⟨h1, h2, h3, h4, h5, h6, h7, h8, h9, h10, h11, 0, t1, t2, t3, t4, t5, t6, t7, t8, t9, t10, t11, 0, .str (eStr (aVal (cI w.params 0))) s.toks, v3, .none, qK, tq, 0, sl, f1, f2, f3, f4, f5, f6⟩ he _ ?_ rfl ⟨_, c10.hY⟩ c10.off c10.B
  have kk : Off [Y, ns] hd6 he := fun b o hb e => (k.2 b (by simp only [List.mem_cons, List.not_mem_nil, or_false, not_or] at hb; exact hb.2)).trans e
  exact ⟨rfl, ⟨_, rfl⟩, c10.ho, ⟨_, _, off_get kk gsl nY nN⟩, ⟨_, _, _, off_get kk gf1 fY1 fN1, rec_off rec1 kk rY1 rN1⟩, ⟨_, _, _, off_get kk gf2 fY2 fN2, rec_off rec2 kk rY2 rN2⟩, ⟨_, off_get kk gf3 fY3 fN3, rfl⟩, ⟨_, off_get kk gf4 fY4 fN4, rfl⟩, ⟨_, off_get kk gf5 fY5 fN5, rfl⟩, ⟨_, off_get kk gf6 fY6 fN6, rfl⟩⟩
end Mine
end
section
open PySem PySem.W PySem.W.X PySem.W.XRun PyProof.Rows PySem.Calls
set_option Elab.async false
set_option maxRecDepth 100000
namespace Mine
theorem str_set : typeLookup (.type "str") "__set_name__" = pure none := by rw [typeLookup_type, builtinLookup_eq_fast]; kernel_rfl
theorem int_set : typeLookup (.type "int") "__set_name__" = pure none := by rw [typeLookup_type, builtinLookup_eq_fast]; kernel_rfl
theorem list_set : typeLookup (.type "list") "__set_name__" = pure none := by rw [typeLookup_type, builtinLookup_eq_fast]; kernel_rfl
theorem tup_set : typeLookup (.type "tuple") "__set_name__" = pure none := by rw [typeLookup_type, builtinLookup_eq_fast]; kernel_rfl
theorem fun_set : typeLookup (.type "function") "__set_name__" = pure none := by rw [typeLookup_type, builtinLookup_eq_fast]; kernel_rfl
theorem locGet {M : Model} {A : Around} {E : Value → Shared → Prop} {s : Shared} {env : Env} {nm : Str} {es : Array DictEntry} {n : Nat} {r : Option Value} {Q : Option Value → Shared → Prop} (ho : s.heap.get? env.locals = some (dO es n)) (e : nsLook nm (dO es n) = pure r) (h : Q r s) : wpAny M A (localGet env nm) Q E s := by
  unfold localGet
  refine wpAny_bind (wpAny_load ho ?_)
  rw [if_pos (by rfl)]
  exact nsGetE ho e h
theorem ldNm {w : World} {A : Around} {E : Value → Shared → Prop} {s : Shared} {ns X fr cm : Addr} {Q : Value → Shared → Prop} {v : Value} (B : Bas w.params s.heap) (ho : s.heap.get? ns = some (dO #[] 0)) (hm : mg w.params "__name__" = some v) (h : Q v s) :
    wpAny (model prog w) A (loadName (cEnv w.params ns X fr cm) "__name__") Q E s := by
  have e : loadName (cEnv w.params ns X fr cm) "__name__" = (do
    if let some v ← localGet (cEnv w.params ns X fr cm) "__name__" then return v
    loadGlobal (cEnv w.params ns X fr cm) "__name__") := by kernel_rfl
  rw [e]
  refine wpAny_bind (locGet (es := #[]) (n := 0) ho (r := none) (by rfl) ?_)
  exact loadGlobal_global B.g hm h
structure ClsD where
  k : KIn
  ns : Addr
  X : Addr
  fr : Addr
  Nn : Addr
  bt : Addr
  t : Tok
  D : Addr
  td : Tok
  tr : Tok
  hs : Int
  hd : Int
  tdoc : Tok
  c2 : Addr
  doc2 : Value
  ctv2 : Value
  c1 : Addr
  doc1 : Value
  ctv1 : Value
structure ClsK (w : World) (h₀ h : Heap) (C cm : Addr) : Prop where
  out : ∃ d : ClsD, d.k.q = qK ∧ h.get? C = some (clsK2 C d.Nn d.bt d.k d.t (sl6 d.bt d.k d.t)) ∧ h.get? d.Nn = some ⟨.type "dict", none, .dict (kEs4 d.k d.hs d.tr d.D d.hd d.tdoc) 3, #[]⟩ ∧ h.get? d.D = some (memO C d.td) ∧
    (h.get? d.k.f1 = some (fO w d.ns d.X d.fr cm N.d_init 2 [] d.doc1 d.c1 d.ctv1) ∧ h.CodeRec (.ref d.c1) (qualnameIn (cEnv w.params d.ns d.X d.fr cm) N.d_init N.d_init)) ∧
    (h.get? d.k.f2 = some (fO w d.ns d.X d.fr cm N.d_lt 3 [(N.n_mycmp, cm)] d.doc2 d.c2 d.ctv2) ∧ h.CodeRec (.ref d.c2) (qualnameIn (cEnv w.params d.ns d.X d.fr cm) N.d_lt N.d_lt)) ∧ h₀.get? d.Nn = none
theorem kl3 {P : Params} {a : Addr} {h : Heap} (B : Bas P h) (e : h.get? a = none) (n : a ∉ tabs) : (K P).lookup a = none := by
  cases q : (K P).lookup a with
  | none => rfl
  | some o => rw [B a o q n] at e; cases e
theorem st_mod (w : World) (ns X fr cm : Addr) (v : Value) : storeName (cEnv w.params ns X fr cm) "__module__" v = localSet (cEnv w.params ns X fr cm) N.d_module v := by kernel_rfl
theorem st_qual (w : World) (ns X fr cm : Addr) (v : Value) : storeName (cEnv w.params ns X fr cm) "__qualname__" v = localSet (cEnv w.params ns X fr cm) N.d_qualname v := by kernel_rfl
theorem st_first (w : World) (ns X fr cm : Addr) (v : Value) : storeName (cEnv w.params ns X fr cm) "__firstlineno__" v = localSet (cEnv w.params ns X fr cm) N.d_firstlineno v := by kernel_rfl
theorem st_stat (w : World) (ns X fr cm : Addr) (v : Value) : storeName (cEnv w.params ns X fr cm) "__static_attributes__" v = localSet (cEnv w.params ns X fr cm) N.d_static_attributes v := by kernel_rfl
set_option maxHeartbeats 1000000 in
theorem clsTail {w : World} {A : Around} (ok : AOk A) (hu : A.units ≤ 1400) (hdp : A.depth ≤ 440) {E : Value → Shared → Prop} {s : Shared} {ns X Y fr cm bt : Addr} {fl : Nat} {t : Tok} {F : Value → Sem Value} {Q : Value → Shared → Prop} (hF : ∀ v, F v = pure v)
    (B : Bas w.params s.heap) (C : CodeHd s.heap X Y) (hXY : X ≠ Y) (hXn : X ≠ ns) (hnY : ns ≠ Y) (hYK : (K w.params).lookup Y = none) (hnK : (K w.params).lookup ns = none)
    (gY : s.heap.get? Y = some (tabObj #[])) (gns : s.heap.get? ns = some (dO #[] 0)) (gbt : s.heap.get? bt = some ⟨.type "tuple", none, .seq #[.type "object"] 0, #[]⟩) (hms : (ns == sysModules) = false)
    (h20 : s.heap.get? 2 = some ⟨.none, none, .dict #[] 0, #[]⟩)
    (h : ∀ h' tk C, ClsK w s.heap h' C cm → Off [Y, ns] s.heap h' → Bas w.params h' → Q (.ref C) { s with heap := h', toks := tk }) :
    wpAny (model prog w) A (do
          enterFrame
          (do
                  let __do_lift ← loadName (cEnv w.params ns X fr cm) (Str.ofString "__name__")
                  storeName (cEnv w.params ns X fr cm) (Str.ofString "__module__") __do_lift
                  let __do_lift ← mkText qK
                  storeName (cEnv w.params ns X fr cm) (Str.ofString "__qualname__") __do_lift
                  let __do_lift ← mkInt ↑fl
                  storeName (cEnv w.params ns X fr cm) (Str.ofString "__firstlineno__") __do_lift
                  pure ()).onRaise (leavingAround (cEnv w.params ns X fr cm))
          let _ ← PySem.run (Code.body (cB w.params) (cEnv w.params ns X fr cm))
          (do
                  let __do_lift ← List.mapM mkText (cSt w.params)
                  let __do_lift ← newTextTuple __do_lift
                  storeName (cEnv w.params ns X fr cm) (Str.ofString "__static_attributes__") __do_lift
                  pure ()).onRaise (leavingAround (cEnv w.params ns X fr cm))
          let cls ← call (Value.type "type") [Value.str N.d_K t, Value.ref bt, .ref ns]
          F cls) Q E s := by
  refine wpAny_bind (wpAny_enterFrame B.lim (by show A.depth < 1000; lia) ?_)
  refine wpAny_bind (wpAny_onRaise ?_)
  refine wpAny_bind (ldNm B gns (v := (mg w.params "__name__").getD .none) (by kernel_rfl) ?_)
  refine wpAny_bind ?_
  rw [st_mod]
  refine locSet gns (by kernel_rfl) (by kernel_rfl) fun h1 t1 ha g1 k1 => ?_
  refine wpAny_bind (wpAny_mkText (wpAny_bind ?_))
  rw [st_qual]
  refine locSet g1 (by kernel_rfl) (by kernel_rfl) fun h2 t2 hb g2 k2 => ?_
  refine wpAny_bind (wpAny_mkInt' ?_)
  refine wpAny_bind ?_
  rw [st_first]
  refine locSet g2 (by kernel_rfl) (by kernel_rfl) fun h3 t3 hc g3 k3 => wpAny_pure ?_
  dsimp only
  have ks : Heap.SameBut ns s.heap hc := k1.trans (k2.trans k3)
  have c0 : CB w s.heap s.heap ns X Y #[] #[] 0 := ⟨B, C, gY, gns, fun _ _ _ e => e, ⟨trivial⟩⟩
  have c1 := c0.nextS hXY hXn hnY hYK hnK ks g3
  refine wpAny_bind (wpAny_run (codeAny_body (by kernel_rfl) (by kernel_rfl) ?_))
  refine clsBody c1.B c1.C hXY hXn hnY hYK hnK c1.hY c1.ho ?_
  intro k hd tk ko hv3 ⟨oY, gYd⟩ off Bd
  dsimp only
  clear c0 g1 g2 g3 k1 k2 k3
  have off0 : Off [Y, ns] s.heap hd := fun b o hb e => off b o hb (c1.off b o hb e)
  clear c1 off ks
  refine wpAny_bind (wpAny_onRaise ?_)
  refine wpAny_bind (wpAny_mkStrs fun vs => ?_)
  refine wpAny_bind (wpAny_newTextTuple ?_)
  refine wpAny_bind ?_
  rw [st_stat]
  dsimp only
  generalize hst : hd.objs.size = st
  have gst : (hd.push ⟨.type "tuple", none, .seq vs.toArray 0, #[]⟩).get? st = some ⟨.type "tuple", none, .seq vs.toArray 0, #[]⟩ := hst ▸ Heap.get?_push_size _ rfl
  have nst : hd.get? st = none := by
    cases q : hd.get? st with
    | none => rfl
    | some o => exact absurd (Heap.lt_size q) (by rw [hst]; exact Nat.lt_irrefl _)
  have hkp : Kp hd (hd.push ⟨.type "tuple", none, .seq vs.toArray 0, #[]⟩) := fun _ _ e => Heap.get?_push_of_some _ e
  refine locSet (hkp _ _ ko.ho) (by kernel_rfl) (by kernel_rfl) fun h12 t12 he g12 k12 => wpAny_pure ?_
  dsimp only
  have stn : st ≠ ns := ne_of_gone nst ko.ho
  have kk : ∀ {b o}, hd.get? b = some o → b ≠ ns → he.get? b = some o := fun e hb => (k12.2 _ hb).trans (hkp _ _ e)
  have gst : he.get? st = some ⟨.type "tuple", none, .seq vs.toArray 0, #[]⟩ := (k12.2 _ stn).trans gst
  have off1 : Off [Y, ns] s.heap he := fun b o hb e => kk (off0 b o hb e) (fun q => hb (q ▸ .tail _ (.head _)))
  have B1 := B.offK off1 (fun b hb => by simp only [List.mem_cons, List.not_mem_nil, or_false] at hb; rcases hb with rfl | rfl; exact .inr hYK; exact .inr hnK)
  have btY : bt ≠ Y := fun q => by rw [q, gY] at gbt; cases gbt
  have btn : bt ≠ ns := fun q => by rw [q, gns] at gbt; exact absurd (congrArg (Option.map Obj.cls) gbt) (by show some (Value.type "dict") ≠ some (Value.type "tuple"); decide)
  have t2Y : (2 : Nat) ≠ Y := fun q => by rw [q, gY] at h20; cases h20
  have t2n : (2 : Nat) ≠ ns := fun q => by rw [q, gns] at h20; cases h20
  obtain ⟨sq, ⟨tv1, sv1⟩, sho, ⟨tsl, msl, ssl⟩, ⟨doc1, c1, ctv1, sf1, sr1⟩, ⟨doc2, c2, ctv2, sf2, sr2⟩, ⟨o3, sf3, sc3⟩, ⟨o4, sf4, sc4⟩, ⟨o5, sf5, sc5⟩, ⟨o6, sf6, sc6⟩⟩ := ko
  have dn : ∀ {b o}, hd.get? b = some o → o.cls ≠ .type "dict" → b ≠ ns := fun e hc q => by subst q; rw [e] at sho; cases sho; exact hc rfl
  have fn : ∀ {b o}, hd.get? b = some o → o.cls = .type "function" → he.get? b = some o := fun e hc => kk e (dn e (by rw [hc]; decide))
  refine wpAny_bind ?_
  refine type_call prog w A ok ⟨he, s.gens, s.drawn, _, s.os⟩ t bt ns { k with h12 := h12, t12 := t12, v12 := .ref st, n := 0 + 1 + 1 + 1 + 8 + 1 } hms tsl msl (kk ssl (dn ssl (by show Value.type "list" ≠ .type "dict"; decide))) (off1 _ _ (by simp [btY, btn]) gbt) g12 (by lia) sq (off1 _ _ (by simp [t2Y, t2n]) h20) ?_ _ _ ?_
  · have pf : ∀ {b o}, hd.get? b = some o → o.cls = .type "function" → ∀ tk', Plain ⟨he, s.gens, s.drawn, tk', s.os⟩ (.ref b) := fun e hc tk' => ⟨(fun _ e => by cases e), "function", ⟨_, fn e hc, hc⟩, fun_set⟩
    intro v hv
    simp only [List.mem_cons, List.not_mem_nil, or_false] at hv
    rcases hv with rfl | rfl | rfl | rfl | rfl | rfl | rfl | rfl | rfl | rfl
    · rw [sv1]; exact ⟨(fun _ e => by cases e), "str", rfl, str_set⟩
    · rw [hv3]; exact ⟨(fun _ e => by cases e), "int", rfl, int_set⟩
    · exact ⟨(fun _ e => by cases e), "list", ⟨_, kk ssl (dn ssl (by show Value.type "list" ≠ .type "dict"; decide)), rfl⟩, list_set⟩
    · exact pf sf1 rfl _
    · exact pf sf2 rfl _
    · exact pf sf3 sc3 _
    · exact pf sf4 sc4 _
    · exact pf sf5 sc5 _
    · exact pf sf6 sc6 _
    · exact ⟨(fun _ e => by cases e), "tuple", ⟨_, gst, rfl⟩, tup_set⟩
  · intro hz tkz C Nn D td tr hs hdd tdoc nC nN gN gC gD kz
    refine wpAny_of_eq (hF _) (h hz _ C ⟨⟨{ k with h12 := h12, t12 := t12, v12 := .ref st, n := 0 + 1 + 1 + 1 + 8 + 1 }, ns, X, fr, Nn, bt, t, D, td, tr, hs, hdd, tdoc, c2, doc2, ctv2, c1, doc1, ctv1⟩, sq, gC, gN, gD, ⟨kz _ _ (fn sf1 rfl), ?_⟩, ⟨kz _ _ (fn sf2 rfl), ?_⟩, ?_⟩ (fun b o hb e => kz b o (off1 b o hb e)) (B1.keeps kz))
    · obtain ⟨c', o', vs', t', e', g', d', v'⟩ := sr1
      exact ⟨c', o', vs', t', e', kz _ _ (kk g' fun q => by subst q; rw [g'] at sho; cases sho; cases d'), d', v'⟩
    · obtain ⟨c', o', vs', t', e', g', d', v'⟩ := sr2
      exact ⟨c', o', vs', t', e', kz _ _ (kk g' fun q => by subst q; rw [g'] at sho; cases sho; cases d'), d', v'⟩
    · cases q : s.heap.get? Nn with
      | none => rfl
      | some o =>
        by_cases hb : Nn ∈ [Y, ns]
        · simp only [List.mem_cons, List.not_mem_nil, or_false] at hb
          rcases hb with rfl | rfl
          · exact absurd nN (by rw [show he.get? Nn = _ from kk gYd (Ne.symm hnY)]; intro e; cases e)
          · exact absurd nN (by rw [show he.get? Nn = _ from g12]; intro e; cases e)
        · exact absurd nN (by rw [show he.get? Nn = _ from off1 Nn o hb q]; intro e; cases e)
end Mine
end
section
open PySem PySem.W PySem.W.X PySem.W.XRun PyProof.Rows PySem.Calls
set_option Elab.async false
set_option maxRecDepth 100000
namespace Mine
theorem ty_getattr : typeLookup (.type "type") "__getattribute__" = pure (some (.builtin "type.__getattribute__")) := by rw [typeLookup_type, builtinLookup_eq_fast]; kernel_rfl
theorem ty_slotG : Slot "type" "__getattribute__" "type.__getattribute__" :=
  .of (owner := "type") (n := "__getattribute__") (by rw [typeLookup_type, builtinLookup_eq_fast]; kernel_rfl) (by decide +kernel) (by decide +kernel) (by decide +kernel) (.inl (by decide +kernel)) ty_sub_tt
set_option maxHeartbeats 4000000 in
theorem prepK {prog : Program} {w : World} {A : Around} (ok : AOk A) {s : Shared} {Q : Option Value → Shared → Prop} {E : Value → Shared → Prop}
    (h2 : s.heap.get? 2 = some ⟨.none, none, .dict #[] 0, #[]⟩)
    (h : ∀ h' tk b, h'.get? b = some ⟨.type "builtin_function_or_method", none, .fields #[.builtin "type.__prepare__", .type "type"], #[]⟩ → Kp s.heap h' → Q (some (.ref b)) { s with heap := h', toks := tk }) :
    wpAny (model prog w) A (getAttr? (.type "type") "__prepare__") Q E s := by
  have e1 := ty_getattr
  have hT : s.TypeIs (.type "type") "type" := by show typeOf (.type "type") = _; kernel_rfl
  unfold getAttr? getAttrBy? 
  refine wpAny_bind (wpAny_mkText ?_)
  refine wpAny_bind (wpAny_attempt ?_)
  unfold getAttrBy
  refine wpAny_holding (wpAny_bind (wpAny_typeOf hT (wpAny_bind (wpAny_of_eq ty_getattr ?_))))
  ((with_reducible apply wpAny_ite_false); focus (rfl; done))
  wp_delta
  with_reducible refine wpAny_bind ?_
  wp_delta
  ((with_reducible apply wpAny_ite_false); focus (rfl; done))
  with_reducible refine wpAny_pure ?_
  with_reducible refine wpAny_bind ?_
  with_reducible refine wpAny_attempt ?_
  with_reducible refine wpAny_holding ?_
  wp_delta
  ((with_reducible apply wpAny_ite_false); focus (rfl; done))
  wp_delta
  with_reducible refine wpAny_bind ?_
  refine wpAny_of_eq (ty_slotG.bind _) ?_
  refine any_weak ok (prepGetM prog w ⟨s.heap, s.gens, s.drawn, s.toks + 1, s.os⟩ s.toks h2 _ _ ?_)
  rintro v h' tk ⟨b, rfl, hb, kp⟩
  refine wpAny_pure ?_
  exact wpAny_pure (h h' tk b hb kp)
theorem clsCode {M : Model} {A : Around} {E : Value → Shared → Prop} {s : Shared} {env : Env} {c P : Addr} {ps : Array Value} {pos : Pos} {firstLine : Nat} {name qualname : Str} {scope : Scope}
    {Q : Value → Shared → Prop} (hc : env.code = .ref c) (C : CodeHd s.heap c P) (hP : s.heap.get? P = some (tabObj ps)) (ht : Trp ps) (hnf : codeAmong pos ps.toList = none)
    (hQ : ∀ X Y h' tk, Off [P] s.heap h' → s.heap.objs.size ≤ X → s.heap.objs.size ≤ Y → CodeHd h' X Y → X ≠ Y → h'.get? Y = some (tabObj #[]) → (∃ ps', h'.get? P = some (tabObj ps')) → Q (.ref X) { s with heap := h', toks := tk }) :
    wpAny M A (classCode env pos firstLine name qualname scope) Q E s := by
  obtain ⟨o, vs, file, tf, flags, tg, inF, text, tt, ho, hcl, hd, h11, h11', h18, h7, h9, h10, hne⟩ := id C
  have hcP : s.heap.get? P = some (tabObj ps) := hP
  unfold classCode codeAt
  rw [hc, if_neg (show ¬ ((Value.ref c == Value.none) = true) from Bool.false_ne_true)]
  refine wpAny_bind (wpAny_fieldsOf ho hd ?_)
  rw [h11']
  refine wpAny_bind (wpAny_fieldsOf hP rfl ?_)
  rw [hnf, h18, h7, h9, h10]
  refine wpAny_bind (wpAny_newCodeX fun X Y h₁ tk hk hX hY hcode htab hrec => ?_)
  have hP₁ := hk _ _ hP
  refine wpAny_bind (wpAny_updateFieldsOfTheText hP₁ rfl ?_)
  have hnew : (Obj.mapFields (fun vs => if (codeAmong pos vs.toList).isSome = true then vs else vs ++ #[rawInt pos.line, rawInt pos.col, .ref X]) (tabObj ps)).data =
      .fields (ps ++ #[rawInt pos.line, rawInt pos.col, .ref X]) := by
    rw [Obj.data_mapFields rfl, hnf]; rfl
  have hget := Heap.get?_update_self (h := h₁) (fun o => Obj.mapFields (fun vs => if (codeAmong pos vs.toList).isSome = true then vs else
    vs ++ #[rawInt pos.line, rawInt pos.col, .ref X]) o) hP₁ (Obj.isFreed_of_fields hnew)
  refine wpAny_bind (wpAny_fieldsOf hget hnew ?_)
  have hl : (ps ++ #[rawInt pos.line, rawInt pos.col, Value.ref X]).toList = ps.toList ++ [rawInt pos.line, rawInt pos.col, .ref X] := by simp
  rw [hl, codeAmong_snoc _ ht.out hnf]
  have hXP : X ≠ P := Nat.ne_of_gt (Nat.lt_of_lt_of_le (Heap.lt_size hP) hX)
  have hYP : Y ≠ P := Nat.ne_of_gt (Nat.lt_of_lt_of_le (Heap.lt_size hP) hY)
  have C2 := CodeHd.of hcode htab
  obtain ⟨o2, vs2, f2, tf2, fl2, tg2, i2, te2, tt2, e2, r2⟩ := C2
  have hXY : X ≠ Y := r2.2.2.2.2.2.2.2.2
  refine wpAny_pure (hQ X Y _ _ (fun b o' hb e => ?_) hX hY ⟨o2, vs2, f2, tf2, fl2, tg2, i2, te2, tt2, ?_, r2⟩ hXY ?_ ⟨_, hget⟩)
  · exact ((Heap.SameBut.update ..).2 b (by simpa using hb)).trans (hk b o' e)
  · exact ((Heap.SameBut.update ..).2 X hXP).trans e2
  · exact ((Heap.SameBut.update ..).2 Y hYP).trans htab.2
theorem Bas.hd27 {P : Params} {h : Heap} (B : Bas P h) : CodeHd h 27 23 := B.hd (by rfl) (by decide) (by kernel_rfl) (by exact rfl) (by exact rfl) (by exact rfl) (by exact rfl) (by exact rfl) (by exact rfl) (by exact rfl) (by decide)
theorem tyO : typeOf (.type "object") = pure (.type "type") := by kernel_rfl
theorem ty_dict_getitem : typeLookup (.type "dict") "__getitem__" = pure (some (.builtin "dict.__getitem__")) := by rw [typeLookup_type, builtinLookup_eq_fast]; kernel_rfl
theorem ne_of_gone' {h : Heap} {a b : Addr} {o : Obj} (e' : h.get? a = some o) (e : h.get? b = none) : a ≠ b := by
  rintro rfl; rw [e] at e'; cases e'
theorem tabs_lt {P : Params} {h : Heap} (B : Bas P h) {a : Addr} (hm : a ∈ tabs) : a < h.objs.size := by
  have e := Heap.lt_size (B.at 110 rfl (by decide))
  simp only [tabs, List.mem_cons, List.not_mem_nil, or_false] at hm
  rcases hm with rfl | rfl | rfl <;> exact Nat.lt_trans (by decide) e
theorem ClsK.base {w : World} {h₀ h₁ h : Heap} {C cm : Addr} (c : ClsK w h₀ h C cm) (k : ∀ b, h₀.get? b = none → h₁.get? b = none) : ClsK w h₁ h C cm := by
  obtain ⟨d, a1, a2, a3, a4, a5, a6, a8⟩ := c
  exact ⟨d, a1, a2, a3, a4, a5, a6, k _ a8⟩
set_option maxHeartbeats 4000000 in
theorem buildK {w : World} {A : Around} (ok : AOk A) (hu : A.units ≤ 1400) (hdp : A.depth ≤ 440) {E : Value → Shared → Prop} {s : Shared} {env : Env} {cm : Addr} {fl : Nat} {Q : Value → Shared → Prop}
    (hg : env.globals = mainGlobals) (hc : env.code = .ref 27) (hcl : closureFor (cS w.params) env = pure [(N.n_mycmp, cm)]) (hbu : env.builtins = builtinsNs)
    (B : Bas w.params s.heap) (h23 : s.heap.get? 23 = some (tabObj #[])) (hT : ∀ a ∈ tabs, ∃ o, s.heap.get? a = some o)
    (h : ∀ h' tk C, ClsK w s.heap h' C cm → Off [23] s.heap h' → Bas w.params h' → (∃ ps, h'.get? 23 = some (tabObj ps)) → Q (.ref C) { s with heap := h', toks := tk }) :
    wpAny (model prog w) A (buildClass N.d_K qK [.type "object"] [] (cB w.params) (cS w.params) (cSt w.params) fl env (cP w.params) none) Q E s := by
  obtain ⟨esc, eloc, eglo, ecell, equal, efunc, ecode, efr, ebui⟩ := env
  dsimp only at hg hc hbu
  subst hg hc hbu
  have e3 := ty_sub_tt
  have e4 := tyO
  have h20 : s.heap.get? 2 = some ⟨.none, none, .dict #[] 0, #[]⟩ := (B.at 2 rfl (by decide)).trans (by kernel_rfl)
  have h2m : s.heap.get? sysModules = some (kO w.params sysModules) := B.at sysModules rfl (by decide)
  unfold buildClass
  with_reducible refine wpAny_bind ?_
  iterate 2 (wp_delta)
  ((with_reducible apply wpAny_ite_false); focus (rfl; done))
  iterate 2 (wp_delta)
  with_reducible refine wpAny_bind ?_
  with_reducible refine wpAny_alloc' ?_
  with_reducible refine wpAny_pure ?_
  with_reducible refine wpAny_bind ?_
  iterate 4 (wp_delta)
  iterate 2 (with_reducible refine wpAny_bind ?_)
  wp_delta
  with_reducible refine wpAny_pure ?_
  ((with_reducible apply wpAny_ite_true); focus (rfl; done))
  ((with_reducible apply wpAny_ite_false); focus (rfl; done))
  with_reducible refine wpAny_pure ?_
  iterate 2 (wp_delta)
  with_reducible refine wpAny_pure ?_
  wp_delta
  with_reducible refine wpAny_bind ?_
  with_reducible refine wpAny_of_eq (show typeOf (Value.type "object") = _ by assumption) ?_
  with_reducible refine wpAny_bind ?_
  wp_delta
  with_reducible refine wpAny_pure ?_
  ((with_reducible apply wpAny_ite_true); focus (rfl; done))
  with_reducible refine wpAny_bind ?_
  iterate 4 (wp_delta)
  iterate 2 (with_reducible refine wpAny_bind ?_)
  with_reducible refine wpAny_of_eq (show typeOf (Value.type "object") = _ by assumption) ?_
  with_reducible refine wpAny_bind ?_
  with_reducible refine wpAny_of_eq (by assumption) ?_
  ((with_reducible apply wpAny_ite_true); focus (rfl; done))
  with_reducible refine wpAny_pure ?_
  iterate 2 (wp_delta)
  with_reducible refine wpAny_pure ?_
  with_reducible refine wpAny_bind ?_
  with_reducible refine wpAny_mkText ?_
  ((with_reducible apply wpAny_ite_false); focus (rfl; done))
  with_reducible refine wpAny_bind ?_
  with_reducible refine wpAny_pure ?_
  with_reducible refine wpAny_holding ?_
  with_reducible refine wpAny_bind ?_
  generalize hbt : s.heap.objs.size = bt
  have gbt : (s.heap.push ⟨.type "tuple", none, .seq #[.type "object"] 0, #[]⟩).get? bt = some ⟨.type "tuple", none, .seq #[.type "object"] 0, #[]⟩ := hbt ▸ Heap.get?_push_size _ rfl
  refine prepK ok (Heap.get?_push_of_some _ h20) fun h1 tk1 b hb k1 => ?_
  dsimp only
  refine wpAny_bind ?_
  refine any_weak ok (prepCallM prog w _ b _ _ hb (k1 _ _ gbt) _ _ ?_)
  rintro v h2 tk2 ⟨ns, rfl, gns, nns, k2⟩
  dsimp only
  have gbt := k2 _ _ (k1 _ _ gbt)
  have ks : Kp s.heap h2 := fun b o e => k2 b o (k1 b o (Heap.get?_push_of_some _ e))
  have nns' : s.heap.get? ns = none := by
    cases q : s.heap.get? ns with
    | none => rfl
    | some o => rw [k1 _ _ (Heap.get?_push_of_some _ q)] at nns; cases nns
  have hTn : Shared.TypeIs ⟨h2, s.gens, s.drawn, tk2, s.os⟩ (.ref ns) "dict" := ⟨_, gns, rfl⟩
  have e5 := ty_dict_getitem
  have hms : ns ≠ sysModules := ne_of_gone nns' h2m
  clear hb k1 k2 nns
  with_reducible refine wpAny_bind ?_
  wp_delta
  ((with_reducible apply wpAny_ite_false); focus (simp [*]; done))
  with_reducible refine wpAny_pure ?_
  with_reducible refine wpAny_bind ?_
  with_reducible refine wpAny_specialOf (by assumption) (by assumption) ?_
  ((with_reducible apply wpAny_ite_false); focus (rfl; done))
  with_reducible refine wpAny_holding ?_
  ((with_reducible apply wpAny_ite_false); focus (rfl; done))
  with_reducible refine wpAny_bind ?_
  with_reducible refine wpAny_pure ?_
  ((with_reducible apply wpAny_ite_false); focus (rfl; done))
  with_reducible refine wpAny_bind ?_
  with_reducible refine wpAny_pure ?_
  with_reducible refine wpAny_bind ?_
  have B2 := B.keeps ks
  refine clsCode rfl B2.hd27 (ks _ _ h23) ⟨trivial⟩ (by kernel_rfl) fun X Y h3 tk3 k3 hX hY C3 hXY gY ⟨o23, g23⟩ => ?_
  dsimp only
  have B3 := B2.offK k3 (fun b hb => .inl (by rw [List.mem_singleton] at hb; subst hb; decide))
  obtain ⟨bm, ob, hbm, hne0, _, hneP, hbo, hcls, hdict, hdata⟩ := B3.bat (T := 23) (by decide)
  refine wpAny_bind (wpAny_builtinsFor B3.g hbm hne0 hbo hcls hdict hdata ?_)
  refine wpAny_bind ?_
  unfold newBodyFrame
  refine wpAny_bind (wpAny_nsGet B3.g (wpAny_alloc' ?_))
  refine wpAny_bind (wpAny_of_eq hcl ?_)
  refine wpAny_holding ?_
  have kf : Kp h3 (h3.push ⟨.type "frame", none, .plain, #[some (.ref X), some (.ref mainGlobals), some (.ref ns), none, some ((mg w.params "__name__").getD .none), none, some (.ref builtinsNs)]⟩) := fun _ _ e => Heap.get?_push_of_some _ e
  have n23 : (23 : Nat) ≠ ns := ne_of_gone' h23 nns'
  have hnY : ns ≠ Y := Nat.ne_of_lt (Nat.lt_of_lt_of_le (Heap.lt_size gns) hY)
  have hXn : X ≠ ns := Nat.ne_of_gt (Nat.lt_of_lt_of_le (Heap.lt_size gns) hX)
  have nY : s.heap.get? Y = none := by
    cases q : s.heap.get? Y with
    | none => rfl
    | some o => exact absurd (Nat.lt_of_lt_of_le (Heap.lt_size (ks _ _ q)) hY) (Nat.lt_irrefl _)
  have tY : Y ∉ tabs := fun hm => absurd (Nat.lt_of_lt_of_le (tabs_lt B2 hm) hY) (Nat.lt_irrefl _)
  have tns : ns ∉ tabs := fun hm => by
    obtain ⟨o, e⟩ := hT ns hm
    rw [nns'] at e; cases e
  have k3' : ∀ {b o}, h2.get? b = some o → b ≠ 23 → h3.get? b = some o := fun e hb => k3 _ _ (by simpa using hb) e
  have bt23 : bt ≠ 23 := fun q => by rw [q] at hbt; exact absurd (Heap.lt_size h23) (by rw [hbt]; exact Nat.lt_irrefl _)
  refine clsTail ok hu hdp (fun v => rfl) (B3.keeps kf) (C3.keeps kf) hXY hXn hnY (kl3 B nY tY) (kl3 B nns' tns) (kf _ _ gY) (kf _ _ (k3' gns (Ne.symm n23))) (kf _ _ (k3' gbt bt23)) (by simpa using hms) (kf _ _ (k3' (ks _ _ h20) (by decide))) ?_
  intro h4 tk4 C ck off B4
  dsimp only
  have hall : ∀ b o, s.heap.get? b = some o → ∃ o', h3.get? b = some o' := fun b o e => by
    by_cases q : b = 23
    · subst q; exact ⟨_, g23⟩
    · exact ⟨_, k3' (ks _ _ e) q⟩
  refine h h4 tk4 C (ck.base fun b e => ?_) (fun b o hb e => ?_) B4 ⟨o23, ?_⟩
  · cases q : s.heap.get? b with
    | none => rfl
    | some o => obtain ⟨o', e'⟩ := hall b o q; rw [kf _ _ e'] at e; cases e
  · have hbY : b ≠ Y := ne_of_gone' e nY
    have hbn : b ≠ ns := ne_of_gone' e nns'
    exact off b o (by simp [hbY, hbn]) (kf _ _ (k3' (ks _ _ e) (by simpa using hb)))
  exact off 23 _ (by simp only [List.mem_cons, List.not_mem_nil, or_false, not_or]; exact ⟨ne_of_gone' h23 nY, n23⟩) (kf _ _ g23)
end Mine
end
section
open PySem PySem.W PySem.W.X PySem.W.XRun PyProof.Rows PySem.Calls
set_option Elab.async false
set_option maxRecDepth 100000
namespace Mine
theorem A_defC {prog : Program} {w : World} {A : Around} {E : Value → Shared → Prop} {Q : Value → Shared → Prop} {s : Shared} {fd : FuncData} {body : List Stmt}
    {a : Addr} {o : Obj} {args : List Value} (binds : List (Str × Value)) (hroom : A.depth ≤ 450) (ho : s.heap.get? a = some o) (hdata : o.data = .func fd) (hlim : s.heap.NoLimit) (hcd : s.heap.CodeRec fd.code fd.qualname)
    (hbody : fd.body = .stmts body) (hbind : bindArgs fd ⟨args, []⟩ = pure binds) (hclo : fd.closure = [])
    (hkind : ∀ x ∈ binds, fd.scope.names.lookup x.1 = some .local ∨ (fd.scope.names.lookup x.1 = some .cell ∧ ((cellsFrom (s.heap.objs.size + 1) fd.scope.names []).lookup x.1).isSome = true))
    (h : ∀ A' s₁, (A'.handled = A.handled ∧ A'.depth = A.depth + 1 ∧ A'.units = A.units + 3) → 
      InCallC s (callEnvC fd s.heap.objs.size a).locals (bindL (callEnvC fd s.heap.objs.size a).kindOf binds fun _ => none) (callEnvC fd s.heap.objs.size a).cells
        (bindC (callEnvC fd s.heap.objs.size a).kindOf binds fun _ => none) s₁ →
      wpAny (model prog w) A' (execs body (callEnvC fd s.heap.objs.size a)) (fun f s' => Q (match f with | .ret v => v | _ => .none) s') (fun _ _ => False) s₁)
    (hco : fd.scope.isCoroutine = false) (hgen : fd.scope.isGenerator = false) (hk : fd.scope.kind = .function) : wpAny (model prog w) A (call (.ref a) args) Q E s := by
  refine wpAny_call (codeAny_call_cells (by show A.depth < 1000; omega) ho hdata hlim hcd hbody hbind hclo hkind (fun s₁ x => ?_) hco hgen hk)
  refine wpAny_mono (h _ s₁ ⟨rfl, rfl, rfl⟩ x) (fun _ _ q => q) (fun _ _ e => e.elim)
theorem mb_object (P : Params) : mb P "object" = some (.type "object") := by kernel_rfl
theorem mg_object (P : Params) : mg P "object" = none := by kernel_rfl
theorem mb_build (P : Params) : mb P "__build_class__" = some (.builtin "__build_class__") := by kernel_rfl
noncomputable def rK (P : Params) : Stmt := match (fdK P).body with | .stmts (_ :: x :: _) => x | _ => .Pass default
noncomputable def cBa (P : Params) : Pos := ((sP (stK P)).1.headD e0).pos
noncomputable def rPos (s : Stmt) : Pos := s.pos
noncomputable def rEp (s : Stmt) : Pos := ((sP s).1.headD e0).pos
theorem stK_eq (P : Params) : stK P = .ClassDef N.d_K [.Name "object" (cBa P)] [] (cB P) [] [] (cS P) none N.d_K (cSt P) (cP P) := by kernel_rfl
theorem rK_eq (P : Params) : rK P = .Return (some (.Name N.d_K (rEp (rK P)))) (rPos (rK P)) := by kernel_rfl
noncomputable abbrev kEnv (P : Params) (L : Addr) : Env := callEnvC (fdK P) L 28
theorem ClsK.same {w : World} {h₀ h₁ h h' : Heap} {C cm L : Addr} {o : Obj} (c : ClsK w h₀ h C cm) (gL : h.get? L = some o) (dL : ∃ es n, o.data = .dict es n) (oL : ∃ o, h₀.get? L = some o) (k : Heap.SameBut L h h') (kb : ∀ b, h₀.get? b = none → h₁.get? b = none) : ClsK w h₁ h' C cm := by
  obtain ⟨d, a1, a2, a3, a4, ⟨a5, r5⟩, ⟨a6, r6⟩, a8⟩ := c
  obtain ⟨es, n, dL⟩ := dL
  have key : ∀ {b : Addr} {x : Obj}, h.get? b = some x → (∀ es n, x.data ≠ .dict es n) → h'.get? b = some x := fun {b x} e hx => (k.2 b (fun q => by subst q; rw [gL] at e; cases e; exact hx _ _ dL)).trans e
  have rk : ∀ {c : Addr} {q : Str}, h.CodeRec (.ref c) q → h'.CodeRec (.ref c) q := fun r => by
    obtain ⟨c₂, o₂, vs₂, t₂, e₂, g₂, d₂, v₂⟩ := r
    cases e₂
    exact ⟨_, o₂, vs₂, t₂, rfl, key g₂ (by intro es n; rw [d₂]; intro e; cases e), d₂, v₂⟩
  refine ⟨d, a1, key a2 (by intro es n e; cases e), ?_, key a4 (by intro es n e; cases e), ⟨key a5 (by intro es n e; cases e), rk r5⟩, ⟨key a6 (by intro es n e; cases e), rk r6⟩, kb _ a8⟩
  obtain ⟨oL, gL0⟩ := oL
  exact (k.2 _ (fun q => by subst q; rw [a8] at gL0; cases gL0)).trans a3
set_option maxHeartbeats 1000000 in
theorem cmpkey {w : World} {A : Around} {E : Value → Shared → Prop} {s : Shared} {fa : Addr} {Q : Value → Shared → Prop}
    (ok : AOk A) (hu : A.units ≤ 1200) (hdp : A.depth ≤ 400) (B : Bas w.params s.heap) (h23 : s.heap.get? 23 = some (tabObj #[])) (hT : ∀ a ∈ tabs, ∃ o, s.heap.get? a = some o)
    (h : ∀ C cm h' tk, ClsK w s.heap h' C cm → h'.IsCell cm (some (.ref fa)) → Off [23] s.heap h' → Bas w.params h' → (∃ ps, h'.get? 23 = some (tabObj ps)) → Q (.ref C) { s with heap := h', toks := tk }) :
    wpAny (model prog w) A (call (.ref 28) [.ref fa]) Q E s := by
  refine A_defC (fd := fdK w.params) (body := [stK w.params, rK w.params]) [(N.n_mycmp, .ref fa)] (by omega) (B.at 28 rfl (by decide)) (by kernel_rfl) B.lim (B.code (c := 27) (by rfl) (by decide) (by exact rfl) (by exact rfl)) (by kernel_rfl) (by kernel_rfl) (by kernel_rfl) (by intro x hx; simp only [List.mem_singleton] at hx; subst hx; exact .inr ⟨by kernel_rfl, by kernel_rfl⟩) ?_ (by kernel_rfl) (by kernel_rfl) (by kernel_rfl)
  rintro A' s₁ ⟨a1, a2, a3⟩ X
  have ok' : AOk A' := ⟨a1.trans ok.handled, by omega, by omega⟩
  obtain ⟨h₁, tk₁, rfl, kp⟩ := X.done
  have hL : (kEnv w.params s.heap.objs.size).locals = s.heap.objs.size := by kernel_rfl
  have hcell : h₁.IsCell (s.heap.objs.size + 1) (some (.ref fa)) := X.cell N.n_mycmp (s.heap.objs.size + 1) (by kernel_rfl)
  have F1 : Fm {} h₁ s.heap.objs.size [] := by
    have x1 := X.toInCall.ns
    exact ⟨_, ⟨x1, fun b o e => by simp [Heap.get?] at e, Nat.zero_le _⟩, fun _ hp => by cases hp⟩
  clear X
  have B1 := B.keeps kp
  refine wpAny_execs_cons ?_
  rw [stK_eq, arm_exec_ClassDef]
  refine wpAny_bind (wpAny_pure (wpAny_bind (wpAny_standAt (wpAny_bind ?_))))
  unfold buildClassGuard
  refine wpAny_bind (wpAny_nsGet (show h₁.Ns (kEnv w.params s.heap.objs.size).builtins (mb w.params) from B1.b) ?_)
  rw [mb_build]
  refine wpAny_pure ?_
  refine wpAny_bind (wpAny_holding (wpAny_bind (evalArgs_plain (spliced_cons (lbui (m := mg w.params) (m' := mb w.params) B1.g (mg_object _) B1.b (mb_object _) (spliced_nil (wpAny_bind (wpAny_standAt (wpAny_holding ?_)))) (by kernel_rfl) (by kernel_rfl) (by kernel_rfl))))))
  dsimp only
  rw [show qualnameIn (callEnvC (fdK w.params) s.heap.objs.size 28) N.d_K N.d_K = qK from by kernel_rfl]
  refine buildK ok' (by omega) (by omega) (cm := s.heap.objs.size + 1) (by kernel_rfl) (by kernel_rfl) (by kernel_rfl) (by kernel_rfl) B1 (kp _ _ h23) (fun a ha => ?_) ?_
  · obtain ⟨o, e⟩ := hT a ha
    exact ⟨o, kp _ _ e⟩
  intro h₂ tk₂ C ck off B2 ⟨ps23, g23⟩
  dsimp only
  refine wpAny_bind (wpAny_pure (wpAny_bind (wpAny_standAt (wpAny_bind (wpAny_bindName ?_)))))
  have nL23 : s.heap.objs.size ≠ 23 := fun q => absurd (Heap.lt_size h23) (by rw [q]; exact Nat.lt_irrefl _)
  have nL23' : s.heap.objs.size + 1 ≠ 23 := Nat.ne_of_gt (Nat.lt_succ_of_lt (Heap.lt_size h23))
  have F2 := F1.off off (by simpa using nL23) (fun b _ => by simp [Heap.get?])
  refine stF [(N.d_K, .ref C)] F2 rfl (fun h₃ F3 k₃ => ?_) hL (by kernel_rfl) (by kernel_rfl)
  refine wpAny_pure ?_
  dsimp only
  refine wpAny_execs_cons ?_
  rw [rK_eq]
  refine wpAny_Return_some (ldF (hd := by rfl) F3 (by k_mem) ?_ hL (by kernel_rfl) (by kernel_rfl))
  obtain ⟨oL, gL, dL⟩ : ∃ o, h₂.get? s.heap.objs.size = some o ∧ ∃ es n, o.data = .dict es n := by
    obtain ⟨m, ⟨⟨o, es, n, e, d, _⟩, _, _⟩, _⟩ := F2
    exact ⟨o, e, es, n, d⟩
  have oC : ∃ o, h₁.get? s.heap.objs.size = some o := by
    obtain ⟨m, ⟨⟨o, es, n, e, d, _⟩, _, _⟩, _⟩ := F1
    exact ⟨o, e⟩
  have offz : Off [23] s.heap h₃ := fun b o hb e => (k₃.2 b (Nat.ne_of_lt (Heap.lt_size e))).trans (off b o hb (kp _ _ e))
  refine h C (s.heap.objs.size + 1) h₃ _ (ck.same gL dL oC k₃ (fun b e => ?_)) ?_ offz (B.offK offz (fun b hb => .inl (by rw [List.mem_singleton] at hb; subst hb; decide))) ⟨ps23, (k₃.2 23 (Ne.symm nL23)).trans g23⟩
  · cases q : s.heap.get? b with
    | none => rfl
    | some o => rw [kp _ _ q] at e; cases e
  · obtain ⟨o, e, d⟩ := hcell
    exact ⟨o, (k₃.2 _ (Nat.succ_ne_self _)).trans (off _ _ (by simpa using nL23') e), d⟩
end Mine
end
section
open PySem PySem.W PySem.W.X PySem.W.XRun PyProof.Rows PySem.Calls
set_option Elab.async false
set_option maxRecDepth 100000
namespace Mine
noncomputable abbrev kCls (C Nn : Addr) (s0 s2 s3 : Option Value) : Obj := ⟨.type "type", none, .cls { name := N.d_K, bases := [.type "object"], mro := [.ref C, .type "object"], ns := Nn, qualname := qK, hasDict := false, slotNames := [N.d_obj] }, #[s0, none, s2, s3, some (.builtin "object.__new__"), some (.bool false)]⟩
section

set_option maxHeartbeats 0 in
theorem mkKM (prog : Program) (w : World) (s : Shared) (C Nn D : Addr) (k : KIn) (tr : Tok) (hs hd : Int) (tdoc : Tok) (v : Value) (s0 s2 s3 : Option Value)
    (hC : s.heap.get? C = some ⟨.type "type", none, .cls { name := N.d_K, bases := [.type "object"], mro := [.ref C, .type "object"], ns := Nn, qualname := qK, hasDict := false, slotNames := [N.d_obj] }, #[s0, none, s2, s3, some (.builtin "object.__new__"), some (.bool false)]⟩)
    (hN : s.heap.get? Nn = some ⟨.type "dict", none, .dict (kEs4 k hs tr D hd tdoc) 3, #[]⟩)
    (Q : Value → Shared → Prop) (E : Value → Shared → Prop)
    (hQ : Ret Q s fun v h' => ∃ a d, v = .ref a ∧ h'.get? a = some ⟨.ref C, some d, .plain, #[]⟩ ∧ s.heap.get? a = none ∧ h'.get? d = some ⟨.type "dict", none, .dict #[] 0, #[]⟩ ∧ Kp s.heap h') :
    wpAny (model prog w) AM (call (.builtin "object.__new__") [.ref C, v]) Q E s := by
  have hX := ret2 (fun d => ⟨.ref C, some d, .plain, #[]⟩) ⟨.type "dict", none, .dict #[] 0, #[]⟩ hQ fun a d _ e n e2 _ k => ⟨a, d, rfl, e, n, e2, k⟩
  x_run
end
theorem ob_init : typeLookup (.type "object") "__init__" = pure (some (.builtin "object.__init__")) := by rw [typeLookup_type, builtinLookup_eq_fast]; kernel_rfl
set_option maxHeartbeats 4000000 in
theorem callK {prog : Program} {w : World} {A : Around} (ok : AOk A) (hu : A.units ≤ 1300) (hdp : A.depth ≤ 440) {E : Value → Shared → Prop} {s : Shared} {C Nn D : Addr} {k : KIn} {tr : Tok} {hs hd : Int} {tdoc : Tok} {v : Value} {s0 s2 s3 : Option Value} {o1 : Obj} {Q : Value → Shared → Prop}
    (hC : s.heap.get? C = some (kCls C Nn s0 s2 s3)) (hN : s.heap.get? Nn = some ⟨.type "dict", none, .dict (kEs4 k hs tr D hd tdoc) 3, #[]⟩) (hf : s.heap.get? k.f1 = some o1) (hfc : o1.cls = .type "function")
    (h : ∀ A' h' tk x dx, (A'.handled = none ∧ A'.depth ≤ A.depth + 1 ∧ A'.units ≤ A.units + 8) → h'.get? x = some ⟨.ref C, some dx, .plain, #[]⟩ → s.heap.get? x = none → h'.get? dx = some ⟨.type "dict", none, .dict #[] 0, #[]⟩ → Kp s.heap h' →
      wpAny (model prog w) A' (call (.ref k.f1) [.ref x, v]) (fun r s' => r = .none ∧ Q (.ref x) s') E { s with heap := h', toks := tk }) :
    wpAny (model prog w) A (call (.ref C) [v]) Q E s := by
  obtain ⟨hp, g, d, tk0, os⟩ := s
  have f1 := F.lookup_type_call
  have f2 := F.bind_type_call (.ref C)
  have hT : Shared.TypeIs ⟨hp, g, d, tk0, os⟩ (.ref C) "type" := ⟨_, hC, rfl⟩
  refine wpAny_call (codeAny_of_tree ?_)
  show wpAny _ _ (callAny (.ref C) _) _ _ _
  wp_delta
  with_reducible refine wpAny_bind ?_
  ((with_reducible apply wpAny_load'); focus (heap_get; done))
  iterate 2 (wp_delta)
  with_reducible refine wpAny_bind ?_
  with_reducible refine wpAny_specialOf (by assumption) (by assumption) ?_
  with_reducible refine wpAny_bind ?_
  with_reducible refine wpAny_of_eq (by assumption) ?_
  with_reducible refine wpAny_bind ?_
  wp_delta
  with_reducible refine wpAny_pure ?_
  ((with_reducible apply wpAny_ite_true); focus (rfl; done))
  wp_delta
  with_reducible refine wpAny_pure ?_
  refine ⟨rfl, ?_⟩
  have hE : hp.get? C = some (excClassObj N.d_K qK C Nn [.type "object"] [.type "object"] false [N.d_obj] [] false none none s0 none s2 s3 (some (.bool false)) "object.__new__") := hC
  refine codeAny_call_builtin_at (Code.quiet_builtin _ (by decide +kernel)) entry_typeCall (wpAny_check_type_call_sub hE ?_)
  unfold Builtin.«type.__call__»
  wp_delta
  ((with_reducible apply wpAny_ite_false); focus (rfl; done))
  with_reducible refine wpAny_bind ?_
  wp_delta
  with_reducible refine wpAny_bind ?_
  wp_delta
  with_reducible refine wpAny_bind ?_
  ((with_reducible apply wpAny_load'); focus (heap_get; done))
  iterate 2 (with_reducible refine wpAny_pure ?_)
  ((with_reducible apply wpAny_ite_false); focus (rfl; done))
  with_reducible refine wpAny_bind ?_
  with_reducible refine wpAny_madeBy_exc hE ?_
  with_reducible refine wpAny_bind ?_
  with_reducible refine wpAny_pure ?_
  with_reducible refine wpAny_bind ?_
  with_reducible refine wpAny_holding ?_
  generalize hAu : A.under (Code.builtin "type.__call__" ({ pos := [Value.ref C] ++ ({ pos := [v] } : Args).pos } : Args)) = Au
  have hu1 : Au.handled = none ∧ Au.depth ≤ A.depth + 1 ∧ Au.units ≤ A.units + 4 := by
    subst hAu
    refine ⟨ok.handled, ?_, ?_⟩
    · show A.depth + _ ≤ _; exact Nat.le_refl _
    · show A.units + _ ≤ _; exact Nat.add_le_add_left (show 1 ≤ 4 by decide) _
  have okU : AOk Au := ⟨hu1.1, by lia, by lia⟩
  refine any_weak okU (mkKM prog w ⟨hp, g, d, tk0, os⟩ C Nn D k tr hs hd tdoc v s0 s2 s3 hC hN _ _ ?_)
  rintro v1 h1 tk1 ⟨x, dx, rfl, gx, nx, gdx, k1⟩
  have hE1 := k1 _ _ hE
  have hN1 := k1 _ _ hN
  have hcC : (Value.ref C :: [Value.type "object"]).contains (.ref C) = true := by simp
  unfold isInstance
  repeat (first | with_reducible refine wpAny_loadPart_at gx ?_ | (with_reducible refine wpAny_isSubtype_exc hE1 ?_; rw [hcC]) | wp_step)
  show wpAny _ _ (typeLookup (.ref C) _) _ _ _
  refine tlook (cd := { name := N.d_K, bases := [.type "object"], mro := [.ref C, .type "object"], ns := Nn, qualname := qK, hasDict := false, slotNames := [N.d_obj] }) (r := some (.ref k.f1)) (y := some (.builtin "object.__init__")) hE1 rfl rfl hN1 (by kernel_rfl) ob_init ?_
  refine wpAny_holding (wpAny_bind ?_)
  unfold bindSpecial
  refine wpAny_bind (wpAny_typeOf (T := "function") ⟨_, k1 _ _ hf, hfc⟩ ?_)
  rw [if_pos (by decide)]
  refine wpAny_pure (wpAny_bind (wpAny_mono (h Au h1 tk1 x dx ⟨hu1.1, hu1.2.1, by lia⟩ gx nx gdx k1) (fun r s' hr => ?_) fun _ _ e => e))
  obtain ⟨rfl, hQ⟩ := hr
  refine wpAny_pure ?_
  exact wpAny_pure hQ
end Mine
end
section
open PySem PySem.W PySem.W.X PySem.W.XRun PyProof.Rows PySem.Calls
set_option Elab.async false
set_option maxRecDepth 100000
namespace Mine
theorem ob_setattr : typeLookup (.type "object") "__setattr__" = pure (some (.builtin "object.__setattr__")) := by rw [typeLookup_type, builtinLookup_eq_fast]; kernel_rfl
theorem ob_obj : typeLookup (.type "object") N.d_obj = pure none := by rw [typeLookup_type, builtinLookup_eq_fast]; kernel_rfl
theorem md_setl : typeLookup (.type "member_descriptor") "__set__" = pure (some (.builtin "member_descriptor.__set__")) := by rw [typeLookup_type, builtinLookup_eq_fast]; kernel_rfl
noncomputable abbrev kCd (C Nn : Addr) : ClassData := { name := N.d_K, bases := [.type "object"], mro := [.ref C, .type "object"], ns := Nn, qualname := qK, hasDict := false, slotNames := [N.d_obj] }
theorem os_slot : Slot "object" "__setattr__" "object.__setattr__" :=
  .of (owner := "object") (n := "__setattr__") (by rw [typeLookup_type, builtinLookup_eq_fast]; kernel_rfl) (by decide +kernel) (by decide +kernel) (by decide +kernel) (.inl (by decide +kernel)) ty_sub_oo
theorem os_entry : entryFor table "object.__setattr__" = some Builtin.«object.__setattr__» := entryFor_of_tree (by kernel_rfl)
theorem os_args (a b c : Value) : argsOk "object.__setattr__" ⟨[a, b, c], []⟩ := by unfold argsOk; kernel_rfl
theorem isInstK {s : Shared} {C Nn x : Addr} {s0 s2 s3 : Option Value} {d : Option Addr} {dt : Data} {sl : Array (Option Value)} (hx : s.heap.get? x = some ⟨.ref C, d, dt, sl⟩) (hC : s.heap.get? C = some (kCls C Nn s0 s2 s3)) :
    ∀ (M : Model) (A : Around) (Q : Bool → Shared → Prop) (E : Value → Shared → Prop), Q true s → wpAny M A (isInstance (.ref x) (.type "object")) Q E s := by
  intro M A Q E h
  have hE : s.heap.get? C = some (excClassObj N.d_K qK C Nn [.type "object"] [.type "object"] false [N.d_obj] [] false none none s0 none s2 s3 (some (.bool false)) "object.__new__") := hC
  obtain ⟨hp, g, d', t, os⟩ := s
  have hcont : (Value.ref C :: [Value.type "object"]).contains (.type "object") = true := by rw [List.contains_cons, show [Value.type "object"].contains (.type "object") = true from by decide, Bool.or_true]
  unfold isInstance
  repeat (first | with_reducible refine wpAny_loadPart_at hx ?_ | (with_reducible refine wpAny_isSubtype_exc hE ?_; rw [hcont]) | wp_step)
  exact h
theorem check_slotK {M : Model} {A : Around} {E : Value → Shared → Prop} {s : Shared} {i n : String} {self : Value} {rest : List Value} {Q : Unit → Shared → Prop}
    (hk : builtinKind i = some .slot) (hs : splitId i = some ("object", n)) (hi : ∀ (M : Model) (A : Around) (Q : Bool → Shared → Prop) (E : Value → Shared → Prop), Q true s → wpAny M A (isInstance self (.type "object")) Q E s) (ha : argsOk i ⟨self :: rest, []⟩) (q : Q () s) :
    wpAny M A (checkBuiltinCall i ⟨self :: rest, []⟩) Q E s := by
  simp only [checkBuiltinCall, hk, hs]
  refine wpAny_bind (hi _ _ _ _ ?_)
  simp only [Bool.not_true, Bool.false_eq_true, if_false]
  cases hsig : Manifest.signature? i with
  | none => exact wpAny_pure q
  | some sig =>
    simp only [argsOk, hsig] at ha
    have h2 : Bind.checkArgs i sig ⟨self :: rest, []⟩ = pure () := ha
    show wpAny M A (Bind.checkArgs i sig ⟨self :: rest, []⟩) Q E s
    rw [h2]; exact wpAny_pure q
theorem md_sub : isSubtype (.type "member_descriptor") (.type "member_descriptor") = pure true := by rw [isSubtype_type]; kernel_rfl
theorem md_slot : Slot "member_descriptor" "__set__" "member_descriptor.__set__" :=
  .of (owner := "member_descriptor") (n := "__set__") (by rw [typeLookup_type, builtinLookup_eq_fast]; kernel_rfl) (by decide +kernel) (by decide +kernel) (by decide +kernel) (.inl (by decide +kernel)) md_sub
theorem md_entry : entryFor table "member_descriptor.__set__" = some Builtin.«member_descriptor.__set__» := entryFor_of_tree (by kernel_rfl)
theorem md_args (a b c : Value) : argsOk "member_descriptor.__set__" ⟨[a, b, c], []⟩ := by unfold argsOk; kernel_rfl
theorem subK {M : Model} {A : Around} {E : Value → Shared → Prop} {s : Shared} {C Nn : Addr} {s0 s2 s3 : Option Value} {Q : Bool → Shared → Prop} (hC : s.heap.get? C = some (kCls C Nn s0 s2 s3)) (h : Q true s) : wpAny M A (isSubtype (.ref C) (.ref C)) Q E s := by
  have hE : s.heap.get? C = some (excClassObj N.d_K qK C Nn [.type "object"] [.type "object"] false [N.d_obj] [] false none none s0 none s2 s3 (some (.bool false)) "object.__new__") := hC
  obtain ⟨hp, g, d', t, os⟩ := s
  have hcC : (Value.ref C :: [Value.type "object"]).contains (.ref C) = true := by simp
  refine wpAny_isSubtype_exc hE ?_
  rw [hcC]; exact h
theorem ps_entry : entryFor table "proto.slot#set" = some Builtin.«proto.slot#set» := entryFor_of_tree (by kernel_rfl)
set_option maxHeartbeats 4000000 in
theorem setObj {prog : Program} {w : World} {A : Around} (ok : AOk A) (hu : A.units ≤ 1300) {E : Value → Shared → Prop} {s : Shared} {C Nn D x dx : Addr} {k : KIn} {td tr : Tok} {hs hd : Int} {tdoc : Tok} {v : Value} {s0 s2 s3 : Option Value} {Q : Unit → Shared → Prop}
    (hC : s.heap.get? C = some (kCls C Nn s0 s2 s3)) (hN : s.heap.get? Nn = some ⟨.type "dict", none, .dict (kEs4 k hs tr D hd tdoc) 3, #[]⟩) (hD : s.heap.get? D = some (memO C td))
    (hx : s.heap.get? x = some ⟨.ref C, some dx, .plain, #[]⟩)
    (h : ∀ h' tk, h'.get? x = some ⟨.ref C, some dx, .plain, #[some v]⟩ → Heap.SameBut x s.heap h' → Q () { s with heap := h', toks := tk }) :
    wpAny (model prog w) A (setAttr (.ref x) N.d_obj v) Q E s := by
  have e1 := ob_setattr
  have e2 := ob_obj
  have e3 := md_setl
  unfold setAttr
  with_reducible refine wpAny_bind ?_
  with_reducible refine wpAny_mkText ?_
  with_reducible refine wpAny_bind ?_
  wp_delta
  with_reducible refine wpAny_bind ?_
  wp_delta
  with_reducible refine wpAny_bind ?_
  wp_delta
  with_reducible refine wpAny_bind ?_
  ((with_reducible apply wpAny_loadPart'); focus (heap_get; done))
  with_reducible refine wpAny_pure ?_
  with_reducible refine tlook (cd := kCd C Nn) (r := none) hC rfl rfl hN (by kernel_rfl) ob_setattr ?_
  with_reducible refine wpAny_holding ?_
  with_reducible refine wpAny_bind ?_
  refine wpAny_of_eq (os_slot.bind _) ?_
  dsimp only
  refine wpAny_bind (wpAny_call (codeAny_call_builtin (by decide +kernel) os_entry ?_))
  simp only [List.cons_append, List.nil_append]
  with_reducible refine check_slotK (n := "__setattr__") (by decide +kernel) (by decide +kernel) ?_ (os_args _ _ _) ?_
  · exact isInstK hx hC
  unfold Builtin.«object.__setattr__»
  ((with_reducible apply wpAny_ite_false); focus (rfl; done))
  with_reducible refine wpAny_bind ?_
  wp_delta
  with_reducible refine wpAny_bind ?_
  wp_delta
  with_reducible refine wpAny_bind ?_
  ((with_reducible apply wpAny_loadPart'); focus (heap_get; done))
  with_reducible refine wpAny_pure ?_
  with_reducible refine wpAny_bind ?_
  wp_delta
  with_reducible refine wpAny_bind ?_
  wp_delta
  with_reducible refine wpAny_bind ?_
  ((with_reducible apply wpAny_load'); focus (heap_get; done))
  iterate 2 (with_reducible refine wpAny_pure ?_)
  with_reducible refine wpAny_bind ?_
  iterate 4 (wp_delta)
  with_reducible refine wpAny_bind ?_
  with_reducible refine wpAny_pure ?_
  iterate 2 (wp_delta)
  with_reducible refine wpAny_bind ?_
  iterate 2 (((with_reducible apply wpAny_ite_false); focus (rfl; done)))
  with_reducible refine wpAny_bind ?_
  wp_delta
  with_reducible refine wpAny_pure ?_
  ((with_reducible apply wpAny_ite_true); focus (rfl; done))
  ((with_reducible apply wpAny_ite_false); focus (rfl; done))
  iterate 3 (with_reducible refine wpAny_pure ?_)
  with_reducible refine wpAny_bind ?_
  wp_delta
  with_reducible refine wpAny_pure ?_
  with_reducible refine wpAny_bind ?_
  wp_delta
  with_reducible refine wpAny_bind ?_
  ((with_reducible apply wpAny_loadPart'); focus (heap_get; done))
  with_reducible refine wpAny_pure ?_
  with_reducible refine wpAny_bind ?_
  with_reducible refine tlook (cd := kCd C Nn) (r := some (.ref D)) hC rfl rfl hN (by kernel_rfl) ob_obj ?_
  with_reducible refine wpAny_bind ?_
  wp_delta
  with_reducible refine wpAny_bind ?_
  wp_delta
  with_reducible refine wpAny_bind ?_
  wp_delta
  with_reducible refine wpAny_bind ?_
  wp_delta
  with_reducible refine wpAny_bind ?_
  ((with_reducible apply wpAny_loadPart'); focus (heap_get; done))
  with_reducible refine wpAny_pure ?_
  with_reducible refine wpAny_of_eq (by assumption) ?_
  ((with_reducible apply wpAny_ite_true); focus (rfl; done))
  with_reducible refine wpAny_pure ?_
  ((with_reducible apply wpAny_ite_true); focus (rfl; done))
  with_reducible refine wpAny_pure ?_
  iterate 2 (wp_delta)
  with_reducible refine wpAny_bind ?_
  with_reducible refine wpAny_rule ?_
  with_reducible refine wpAny_bind ?_
  with_reducible refine wpAny_holding ?_
  wp_delta
  with_reducible refine wpAny_bind ?_
  wp_delta
  with_reducible refine wpAny_bind ?_
  wp_delta
  with_reducible refine wpAny_bind ?_
  ((with_reducible apply wpAny_loadPart'); focus (heap_get; done))
  with_reducible refine wpAny_pure ?_
  with_reducible refine wpAny_of_eq (by assumption) ?_
  with_reducible refine wpAny_holding ?_
  with_reducible refine wpAny_bind ?_
  refine wpAny_of_eq (md_slot.bind _) ?_
  dsimp only
  have hTD : Shared.TypeIs ⟨s.heap, s.gens, s.drawn, s.toks + 1, s.os⟩ (.ref D) "member_descriptor" := ⟨_, hD, rfl⟩
  simp only [List.cons_append, List.nil_append]
  refine wpAny_bind (wpAny_call (codeAny_call_builtin (by decide +kernel) md_entry (md_slot.check _ _ _ _ _ _ _ _ hTD (md_args _ _ _) ?_)))
  unfold Builtin.«member_descriptor.__set__»
  wp_delta
  ((with_reducible apply wpAny_ite_false); focus (rfl; done))
  iterate 2 (wp_delta)
  with_reducible refine wpAny_bind ?_
  wp_delta
  with_reducible refine wpAny_bind ?_
  wp_delta
  with_reducible refine wpAny_bind ?_
  wp_delta
  with_reducible refine wpAny_bind ?_
  wp_delta
  with_reducible refine wpAny_bind ?_
  ((with_reducible apply wpAny_load'); focus (heap_get; done))
  with_reducible refine wpAny_pure ?_
  wp_delta
  with_reducible refine wpAny_pure ?_
  wp_delta
  with_reducible refine wpAny_bind ?_
  wp_delta
  with_reducible refine wpAny_bind ?_
  wp_delta
  with_reducible refine wpAny_bind ?_
  ((with_reducible apply wpAny_load'); focus (heap_get; done))
  with_reducible refine wpAny_pure ?_
  wp_delta
  iterate 2 (with_reducible refine wpAny_pure ?_)
  with_reducible refine wpAny_bind ?_
  wp_delta
  with_reducible refine wpAny_bind ?_
  wp_delta
  with_reducible refine wpAny_bind ?_
  ((with_reducible apply wpAny_loadPart'); focus (heap_get; done))
  with_reducible refine wpAny_pure ?_
  refine subK hC ?_
  ((with_reducible apply wpAny_ite_false); focus (rfl; done))
  with_reducible refine wpAny_pure ?_
  with_reducible refine wpAny_bind ?_
  wp_delta
  with_reducible refine wpAny_bind ?_
  wp_delta
  with_reducible refine wpAny_bind ?_
  ((with_reducible apply wpAny_load'); focus (heap_get; done))
  iterate 2 (with_reducible refine wpAny_pure ?_)
  with_reducible refine wpAny_bind ?_
  wp_delta
  with_reducible refine wpAny_bind ?_
  wp_delta
  with_reducible refine wpAny_bind ?_
  ((with_reducible apply wpAny_load'); focus (heap_get; done))
  with_reducible refine wpAny_pure ?_
  wp_delta
  with_reducible refine wpAny_pure ?_
  wp_delta
  with_reducible refine wpAny_bind ?_
  with_reducible refine wpAny_rule ?_
  iterate 2 (wp_delta)
  with_reducible refine wpAny_pure ?_
  have e5 : (if #[Value.str N.d_obj td, Value.ref C, Value.builtin "proto.slot", Value.builtin "proto.slot#set", rawInt 0].size > 4 then [Value.ref D] else []) = [Value.ref D] := rfl
  rw [e5]
  refine ⟨Code.quiet_builtin _ (by decide +kernel), codeAny_builtin ps_entry ?_⟩
  unfold Builtin.«proto.slot#set»
  simp only [List.cons_append, List.nil_append]
  with_reducible refine wpAny_bind ?_
  wp_delta
  with_reducible refine wpAny_bind ?_
  wp_delta
  with_reducible refine wpAny_bind ?_
  wp_delta
  with_reducible refine wpAny_bind ?_
  ((with_reducible apply wpAny_load'); focus (heap_get; done))
  with_reducible refine wpAny_pure ?_
  wp_delta
  with_reducible refine wpAny_pure ?_
  with_reducible refine wpAny_bind ?_
  wp_delta
  with_reducible refine wpAny_bind ?_
  wp_delta
  with_reducible refine wpAny_bind ?_
  ((with_reducible apply wpAny_load'); focus (heap_get; done))
  with_reducible refine wpAny_pure ?_
  wp_delta
  with_reducible refine wpAny_pure ?_
  wp_delta
  with_reducible refine wpAny_bind ?_
  wp_delta
  with_reducible refine wpAny_bind ?_
  ((with_reducible apply wpAny_loadPart'); focus (heap_get; done))
  with_reducible refine wpAny_pure ?_
  with_reducible refine wpAny_bind ?_
  wp_delta
  with_reducible refine wpAny_bind ?_
  wp_delta
  with_reducible refine wpAny_bind ?_
  ((with_reducible apply wpAny_load'); focus (heap_get; done))
  iterate 2 (with_reducible refine wpAny_pure ?_)
  ((with_reducible apply wpAny_ite_false); focus (rfl; done))
  with_reducible refine wpAny_pure ?_
  with_reducible refine wpAny_bind ?_
  wp_delta
  ((with_reducible apply wpAny_ite_false); focus (rfl; done))
  ((with_reducible apply wpAny_updatePart'); focus (heap_get; done))
  wp_delta
  iterate 2 (with_reducible refine wpAny_pure ?_)
  iterate 2 (wp_delta)
  iterate 3 (with_reducible refine wpAny_pure ?_)
  refine h _ _ (Eq.trans (Heap.get?_update_self _ hx ?zz1) ?zz2) (Heap.SameBut.update ..)
  all_goals kernel_rfl
end Mine
end
section
open PySem PySem.W PySem.W.X PySem.W.XRun PyProof.Rows PySem.Calls
set_option Elab.async false
set_option maxRecDepth 100000
namespace Mine
theorem iBod (P : Params) : ∃ p1 p2 p3 p4, dBod (cI P 2) = [.Assign [.Attribute (.Name N.n_self p1) N.d_obj p2] (.Name N.d_obj p3) p4] := ⟨_, _, _, _, rfl⟩
theorem lBod (P : Params) : ∃ p1 p2 p3 p4 p5 p6 p7 p8 p9, dBod (cI P 3) = [.Return (some (.Compare (.Call (.Name N.n_mycmp p1) [.Attribute (.Name N.n_self p2) N.d_obj p3, .Attribute (.Name N.n_other p4) N.d_obj p5] [] p6) [.Lt] [.Constant (.int 0) 0 p7] p8)) p9] := ⟨_, _, _, _, _, _, _, _, _, rfl⟩
theorem A_defE {prog : Program} {w : World} {A : Around} {E : Value → Shared → Prop} {Q : Value → Shared → Prop} {s : Shared} {fd : FuncData} {body : List Stmt}
    {a : Addr} {o : Obj} {args : List Value} (binds : List (Str × Value)) (hroom : A.depth ≤ 450) (ho : s.heap.get? a = some o) (hdata : o.data = .func fd) (hlim : s.heap.NoLimit) (hcd : s.heap.CodeRec fd.code fd.qualname)
    (hbody : fd.body = .stmts body) (hbind : bindArgs fd ⟨args, []⟩ = pure binds) (hnd : (binds.reverse.map (·.1)).Nodup) (hloc : ∀ x ∈ binds, fd.scope.names.lookup x.1 = some .local)
    (h : ∀ A' h₁ L tk, (A'.handled = A.handled ∧ A'.depth = A.depth + 1 ∧ A'.units = A.units + 3) → L = s.heap.objs.size → Fm s.heap h₁ L binds →
      wpAny (model prog w) A' (execs body (callEnv fd L a)) (fun f s' => Q (match f with | .ret v => v | _ => .none) s') (fun _ _ => False) { s with heap := h₁, toks := tk })
    (hco : fd.scope.isCoroutine = false) (hgen : fd.scope.isGenerator = false) (hk : fd.scope.kind = .function)
    (hcell : ∀ x ∈ fd.scope.names, x.2 ≠ .cell) : wpAny (model prog w) A (call (.ref a) args) Q E s :=
  A_def binds hroom ho hdata hlim hcd hbody (BindsTo.of_eq hbind) hnd hloc h hco hgen hk hcell
noncomputable abbrev iO (C dx : Addr) (v : Value) : Obj := ⟨.ref C, some dx, .plain, #[some v]⟩
set_option maxHeartbeats 1000000 in
theorem newK {w : World} {A : Around} (ok : AOk A) (hu : A.units ≤ 1200) (hdp : A.depth ≤ 400) {E : Value → Shared → Prop} {s : Shared} {h₀ : Heap} {C cm : Addr} {v : Value} {Q : Value → Shared → Prop} (B : Bas w.params s.heap) (ck : ClsK w h₀ s.heap C cm)
    (h : ∀ h' tk x dx, h'.get? x = some (iO C dx v) → s.heap.get? x = none → Kp s.heap h' → Q (.ref x) { s with heap := h', toks := tk }) :
    wpAny (model prog w) A (call (.ref C) [v]) Q E s := by
  obtain ⟨⟨k, ns, X, fr, Nn, bt, t, D, td, tr, hs, hd, tdoc, c2, doc2, ctv2, c1, doc1, ctv1⟩, hq, gC, gN, gD, ⟨g1, r1⟩, ⟨g2, r2⟩, _⟩ := ck
  dsimp only at hq gC gN gD g1 r1 g2 r2
  have gC' : s.heap.get? C = some (kCls C Nn (some (.ref bt)) (some (.str N.d_K t)) (some (.str qK k.tq))) := by
    rw [gC]; unfold clsK2 sl6; rw [hq]
  refine callK ok (by lia) (by lia) gC' gN g1 rfl ?_
  rintro A' h1 tk x dx ⟨a1, a2, a3⟩ gx nx gdx k1
  obtain ⟨p1, p2, p3, p4, hb⟩ := iBod w.params
  refine A_defE [(N.n_self, .ref x), (N.d_obj, v)] (by lia) (k1 _ _ g1) rfl (B.keeps k1).lim (r1.keeps k1) (body := dBod (cI w.params 2)) rfl (by kernel_rfl) (by show [N.d_obj, N.n_self].Nodup; decide) ?_ ?_ (by kernel_rfl) (by kernel_rfl) (by kernel_rfl) ?_
  · intro y hy
    simp only [List.mem_cons, List.not_mem_nil, or_false] at hy
    rcases hy with rfl | rfl <;> kernel_rfl
  · rintro A2 h2 L tk2 ⟨b1, b2, b3⟩ hL F
    rw [hb]
    have kk : Kp s.heap h2 := fun b o e => F.keep b o (k1 b o e)
    refine wpAny_execs_cons (plainObj_wpAny_Assign_Attribute (ldF (hd := by rfl) F (by k_mem) (ldF (hd := by rfl) F (by k_mem) ?_ rfl (by kernel_rfl) (by kernel_rfl)) rfl (by kernel_rfl) (by kernel_rfl)) (by kernel_rfl))
    refine setObj ⟨b1.trans a1, by lia, by lia⟩ (by lia) (kk _ _ gC') (kk _ _ gN) (kk _ _ gD) (F.keep _ _ gx) fun h3 tk3 g3 k3 => ?_
    refine wpAny_execs_nil ⟨rfl, h h3 _ x dx g3 nx fun b o e => (k3.2 b (fun q => by subst q; rw [nx] at e; cases e)).trans (kk b o e)⟩
  · exact of_decide_eq_true (by kernel_rfl)
end Mine
end
section
open PySem PySem.W PySem.W.X PySem.W.XRun PyProof.Rows PySem.Calls
set_option Elab.async false
set_option maxRecDepth 100000
namespace Mine
set_option maxHeartbeats 1000000 in
theorem ifmt {w : World} {A : Around} {E : Value → Shared → Prop} {s : Shared} {n : Int} {t : Tok} {Q : Value → Shared → Prop}
    (ok : AOk A) (hdp : A.depth ≤ 400) (B : Bas w.params s.heap)
    (h : ∀ t h' tk, Kp s.heap h' → Q (.int (Builtin.bitAnd n 61440) t) { s with heap := h', toks := tk }) :
    wpAny (model prog w) A (call (.ref 44) [.int n t]) Q E s := by
  refine A_defE (hco := by rfl) (hgen := by rfl) (hk := by rfl) (hcell := by decide) [(N.n_mode, .int n t)] (by lia) (B.at 44 rfl (by decide)) (by exact rfl) B.lim (B.code (c := 43) (by rfl) (by decide) (by exact rfl) (by exact rfl)) (by exact rfl) (by kernel_rfl) (by show [N.n_mode].Nodup; decide) (by exact locs rfl) ?_
  rintro A' h₁ L tk ⟨a1, a2, a3⟩ hL F
  refine wpAny_execs_cons (wpAny_Return_some (wpAny_BinOp (ldF (hL := by rfl) (hk := by rfl) (hl := by rfl) (hd := by rfl) F (by k_mem) (wpAny_Constant_int (and_int ?_)))))

  exact h _ _ _ F.keep
end Mine
end
section
open PySem PySem.W PySem.W.X PySem.W.XRun PyProof.Rows PySem.Calls
set_option Elab.async false
set_option maxRecDepth 100000
namespace Mine
section
variable {prog : Program} {w : World} {A : Around} {E : Value → Shared → Prop} {s : Shared}
theorem nextT_item {it t : Addr} {i : Nat} {items : Array Value} {x : Value} {Q : Value → Shared → Prop} (hit : s.heap.IsTupleIter it t i) (hl : s.heap.IsTuple t items) (hx : items[i]? = some x)
    (hQ : ∀ h', h'.IsTupleIter it t (i + 1) → Heap.SameBut it s.heap h' → Q x { s with heap := h' }) : wpAny (model prog w) A (Builtin.SmallTypes.nextOf (.ref it)) Q E s := by
  obtain ⟨o, ho, hc, hd⟩ := id hit
  obtain ⟨ol, hol, _, nl, hdl⟩ := hl
  unfold Builtin.SmallTypes.nextOf
  refine wpAny_bind (wpAny_callSpecial?_slot (name := Str.ofString "__next__") hit.typeIs slot_tupleiter_next
    (wpAny_call_entry slot_tupleiter_next hit.typeIs entry_tupleiter_next ?_ (args_tupleiter_next _)))
  show wpAny _ _ (field (.ref it) 0 >>= _) _ _ s
  refine wpAny_bind (wpAny_field ho hd (x := .ref t) rfl ?_)
  show wpAny _ _ (if (Value.ref t == Value.none) = true then _ else _) _ _ s
  rw [if_neg (show ¬ ((Value.ref t == Value.none) = true) from Bool.false_ne_true)]
  show wpAny _ _ (field (.ref it) 1 >>= _) _ _ s
  refine wpAny_bind (wpAny_field ho hd (x := .int i 0) rfl ?_)
  show wpAny _ _ (seqItems? (.ref t) >>= _) _ _ s
  refine wpAny_bind (wpAny_seqItems hol hdl ?_)
  simp only [Int.toNat_natCast, hx]
  refine wpAny_bind (wpAny_setField ho hd (by simp) (wpAny_pure ⟨x, rfl, wpAny_pure (hQ _ ?_ (Heap.SameBut.update ..))⟩))
  exact ⟨_, Heap.get?_update_self _ ho (Obj.isFreed_of_fields (Obj.data_mapFields hd _)), (Obj.cls_mapFields ..).trans hc, by
    rw [Obj.data_mapFields hd]; simp [rawInt]⟩
theorem nextT_end {it t : Addr} {i : Nat} {items : Array Value} {Q : Value → Shared → Prop} (hh : A.handled = none) (hit : s.heap.IsTupleIter it t i) (hl : s.heap.IsTuple t items) (hx : items[i]? = none)
    (hE : ∀ h' e, Heap.ExtBut it s.heap h' → (∃ o, h'.get? e = some o ∧ o.cls = .type "StopIteration") → E (.ref e) { s with heap := h' }) : wpAny (model prog w) A (Builtin.SmallTypes.nextOf (.ref it)) Q E s := by
  obtain ⟨o, ho, hc, hd⟩ := id hit
  obtain ⟨ol, hol, _, nl, hdl⟩ := hl
  unfold Builtin.SmallTypes.nextOf
  refine wpAny_bind (wpAny_callSpecial?_slot (name := Str.ofString "__next__") hit.typeIs slot_tupleiter_next
    (wpAny_call_entry slot_tupleiter_next hit.typeIs entry_tupleiter_next ?_ (args_tupleiter_next _)))
  show wpAny _ _ (field (.ref it) 0 >>= _) _ _ s
  refine wpAny_bind (wpAny_field ho hd (x := .ref t) rfl ?_)
  show wpAny _ _ (if (Value.ref t == Value.none) = true then _ else _) _ _ s
  rw [if_neg (show ¬ ((Value.ref t == Value.none) = true) from Bool.false_ne_true)]
  show wpAny _ _ (field (.ref it) 1 >>= _) _ _ s
  refine wpAny_bind (wpAny_field ho hd (x := .int i 0) rfl ?_)
  show wpAny _ _ (seqItems? (.ref t) >>= _) _ _ s
  refine wpAny_bind (wpAny_seqItems hol hdl ?_)
  simp only [Int.toNat_natCast, hx]
  refine wpAny_bind (wpAny_rule (wpAny_bind (wpAny_setField ho hd (by simp) ?_)))
  show wpAny _ _ (newExc (.type "StopIteration") [] >>= _) _ _ _
  refine wpAny_bind ?_
  simp only [newExc, newTuple]
  refine wpAny_bind (wpAny_newObj_type ?_ (by size_fits))
  refine wpAny_bind (m := firstArgMember _ _) (wpAny_of_eq (a := Value.none) (by first | rfl | (simp only [firstArgMember]; rfl)) ?_)
  refine wpAny_newObj_type ?_ (by size_fits)
  simp only [raiseNew]
  refine wpAny_bind (wpAny_handled ?_)
  rw [show A.in1.handled = none from hh]
  refine wpAny_bind (wpAny_pure (wpAny_throw ?_))
  exact hE _ _ (((Heap.SameBut.update ..).extBut.push _).push _) ⟨_, Heap.get?_push_size _ rfl, rfl⟩
end
theorem drawsTuple {prog : Program} {w : World} {A : Around} (hh : A.handled = none) (it t : Addr) (hne : t ≠ it) (items : Array Value) :
    Draws prog w A it [it, t] items.size (fun i v => items[i]? = some v) (fun i h => h.IsTupleIter it t i ∧ h.IsTuple t items) where
  live := fun _ _ st => let ⟨o, ho, _⟩ := st.1; ⟨o, ho⟩
  frame := fun _ _ _ st hk => ⟨st.1.at fun o e => hk it (by simp) o e, st.2.at fun o e => hk t (by simp) o e⟩
  item := fun i s Q E hi st hQ => nextT_item st.1 st.2 (Array.getElem?_eq_getElem hi) fun h' hit' hs' => hQ _ h' s.toks (Array.getElem?_eq_getElem hi) ⟨hit', st.2.at fun o e => (hs'.2 _ hne).trans e⟩ hs'
  done := fun s Q E st hQ => nextT_end hh st.1 st.2 (by simp) fun h' e he ho => hQ h' e he ho
end Mine
end
section
open PySem PySem.W PySem.W.X PySem.W.XRun PyProof.Rows PySem.Calls
set_option Elab.async false
set_option maxRecDepth 100000
namespace Mine
section

set_option maxHeartbeats 0 in
theorem enumM (prog : Program) (w : World) (s : Shared) (t : Addr) (items : Array Value) (n : Nat) (ht : s.heap.get? t = some ⟨.type "tuple", none, .seq items n, #[]⟩) (Q : Value → Shared → Prop) (E : Value → Shared → Prop)
    (hQ : Ret Q s fun v h' => ∃ a it, v = .ref a ∧ h'.get? a = some ⟨.type "enumerate", none, .fields #[.none, .bool false, .ref it, rawInt 0, .none, .none], #[]⟩ ∧ h'.get? it = some ⟨.type "tuple_iterator", none, .fields #[.ref t, .int 0 0], #[]⟩ ∧ s.heap.get? a = none ∧ s.heap.get? it = none ∧ Kp s.heap h') :
    wpAny (model prog w) AM (call (.type "enumerate") [.ref t]) Q E s := by
  have hX := ret2 (fun it => ⟨.type "enumerate", none, .fields #[.none, .bool false, .ref it, rawInt 0, .none, .none], #[]⟩) ⟨.type "tuple_iterator", none, .fields #[.ref t, .int 0 0], #[]⟩ hQ fun a d _ e n e2 n2 k => ⟨a, d, rfl, e, e2, n, n2, k⟩
  x_run
end
end Mine
end
section
open PySem PySem.W PySem.W.X PySem.W.XRun PyProof.Rows PySem.Calls
set_option Elab.async false
set_option maxRecDepth 100000
namespace Mine
structure Pr where
  at' : Addr
  bit : Int
  tb : Tok
  ch : Nat
  tc : Tok
noncomputable abbrev Pr.o (p : Pr) : Obj := ⟨.type "tuple", none, .seq #[.int p.bit p.tb, .str ⟨#[p.ch]⟩ p.tc] 0, #[]⟩
noncomputable abbrev fmT : List (Addr × List Pr) := [
  (52, [⟨45, 40960, 243, 108, 271⟩, ⟨46, 49152, 245, 115, 272⟩, ⟨47, 32768, 239, 45, 273⟩, ⟨48, 24576, 237, 98, 274⟩, ⟨49, 16384, 233, 100, 275⟩, ⟨50, 8192, 235, 99, 276⟩, ⟨51, 4096, 241, 112, 277⟩]),
  (54, [⟨53, 256, 253, 114, 278⟩]),
  (56, [⟨55, 128, 255, 119, 279⟩]),
  (60, [⟨57, 2112, 280, 115, 281⟩, ⟨58, 2048, 247, 83, 282⟩, ⟨59, 64, 257, 120, 283⟩]),
  (62, [⟨61, 32, 259, 114, 284⟩]),
  (64, [⟨63, 16, 261, 119, 285⟩]),
  (68, [⟨65, 1032, 286, 115, 287⟩, ⟨66, 1024, 249, 83, 288⟩, ⟨67, 8, 263, 120, 289⟩]),
  (70, [⟨69, 4, 265, 114, 290⟩]),
  (72, [⟨71, 2, 267, 119, 291⟩]),
  (76, [⟨73, 513, 292, 116, 293⟩, ⟨74, 512, 251, 84, 294⟩, ⟨75, 1, 269, 120, 295⟩])]
noncomputable abbrev tO (t : List Pr) : Obj := ⟨.type "tuple", none, .seq (t.map fun p => Value.ref p.at').toArray 0, #[]⟩
theorem fm_all (P : Params) : (fmT.map fun t => ((K P).lookup t.1, t.2.map fun p => (K P).lookup p.at')) = fmT.map fun t => (some (tO t.2), t.2.map fun p => some p.o) := by kernel_rfl
theorem fm_tabs : (fmT.all fun t => decide (t.1 ∉ tabs) && t.2.all fun p => decide (p.at' ∉ tabs)) = true := by decide +kernel
theorem fm_top (P : Params) : (K P).lookup 77 = some ⟨.type "tuple", none, .seq (fmT.map fun t => Value.ref t.1).toArray 0, #[]⟩ := by kernel_rfl
theorem fm_tab {P : Params} {h : Heap} (B : Bas P h) {t : Addr × List Pr} (ht : t ∈ fmT) : h.get? t.1 = some (tO t.2) ∧ ∀ p ∈ t.2, h.get? p.at' = some p.o := by
  have e := List.map_inj_left.mp (fm_all P) t ht
  have n := List.all_eq_true.mp fm_tabs t ht
  rw [Bool.and_eq_true, decide_eq_true_eq, List.all_eq_true] at n
  obtain ⟨e1, e2⟩ := Prod.mk.inj e
  refine ⟨B _ _ e1 n.1, fun p hp => B _ _ (List.map_inj_left.mp e2 p hp) (of_decide_eq_true (n.2 p hp))⟩
section
variable {prog : Program} {w : World} {A : Around} {E : Value → Shared → Prop} {s : Shared}
theorem go_tupleiter {elts : List Expr} {x1} {pos : Pos} {I l T : Addr} {i : Nat} {Q : Unit → Shared → Prop} (hit : s.heap.IsTupleIter I l i) (hQ : Q () s) :
    wpAny (model prog w) A (letOwnedTupleGo (.Tuple elts x1 pos) (.ref I) (.ref T)) Q E s := by
  obtain ⟨o, ho, hc, hd⟩ := hit
  unfold letOwnedTupleGo
  refine wpAny_bind (wpAny_load ho ?_)
  rw [hc, hd]
  show wpAny _ A (if (["enumerate", "zip", "dict_itemiterator", "dict_reverseitemiterator", "odict_iterator", "itertools.zip_longest", "itertools.pairwise"].contains "tuple_iterator" && _) = true then _ else _) Q E s
  rw [if_neg (by
    intro h
    rw [show (["enumerate", "zip", "dict_itemiterator", "dict_reverseitemiterator", "odict_iterator", "itertools.zip_longest", "itertools.pairwise"].contains "tuple_iterator") = false from by decide, Bool.false_and] at h
    cases h)]
  exact wpAny_pure hQ
theorem asg2 {env : Env} {x y : Str} {px py pos : Pos} {x1} {t : Addr} {v v' : Value} {h₀ : Heap} {L : Addr} {bs : List (Str × Value)} {Q : Unit → Shared → Prop} (bs' bs'' : List (Str × Value)) (hh : A.handled = none) (ht : s.heap.IsTuple t #[v, v'])
    (F : Fm h₀ s.heap L bs) (hb : bs' = (x, v) :: bs.filter fun p => !(p.1 == x)) (hb' : bs'' = (y, v') :: bs'.filter fun p => !(p.1 == y))
    (h : ∀ h' tk, Fm h₀ h' L bs'' → Off [L] s.heap h' → Q () { s with heap := h', toks := tk })
    (hL : env.locals = L) (hk : env.scope.kind = .function) (hl : env.kindOf x = some .local) (hl' : env.kindOf y = some .local) :
    wpAny (model prog w) A (assign (.Tuple [.Name x px, .Name y py] x1 pos) env (.ref t)) Q E s := by
  refine wpAny_assign_Tuple hh ht rfl rfl fun h₁ k₁ => ?_
  have k₁' : Kp s.heap h₁ := fun b o e => k₁ b o (Nat.ne_of_lt (Heap.lt_size e)) e
  show wpAny _ _ (assignInOrder [_, _] [v, v']) _ _ _
  refine wpAny_assignInOrder_more (wpAny_assign_Name (stF bs' (F.kp k₁') hb (fun h₂ F2 k₂ => ?_) hL hk hl))
  refine wpAny_assignInOrder_more (wpAny_assign_Name (stF bs'' F2 hb' (fun h₃ F3 k₃ => wpAny_assignInOrder_none ?_) hL hk hl'))
  exact h _ _ F3 fun b o hb e => Off.of_same k₃ b o hb (Off.of_same k₂ b o hb (k₁' b o e))
theorem forT {env : Env} {elts : List Expr} {x1} {pos : Pos} {body orelse : List Stmt} {I : Addr} {fp wr : List Addr} {n : Nat} {P : Nat → Array Value → Prop} {St : Nat → Heap → Prop} {Mid : Nat → Addr → Heap → Prop} {J : Nat → Heap → Prop} {Q : Flow → Shared → Prop}
    (W : WalksT prog w A I fp wr n P St Mid) (hst : St 0 s.heap) (hJ : J 0 s.heap)
    (hwr : ∀ i h h', J i h → Off wr h h' → J i h')
    (turn : ∀ i T vals h tk E', i < n → P i vals → h.IsTuple T vals → St (i + 1) h → J i h → wpAny (model prog w) A (assign (.Tuple elts x1 pos) env (.ref T)) (fun _ s₂ => wpAny (model prog w) A (execs body env) (fun f s₃ => match f with
      | .next | .cont => ∃ h' tk', s₃ = { s with heap := h', toks := tk' } ∧ St (i + 1) h' ∧ J (i + 1) h'
      | .brk => Q .next s₃
      | .ret v => Q (.ret v) s₃) E' s₂) E' { s with heap := h, toks := tk })
    (done : ∀ h tk E', J n h → wpAny (model prog w) A (execs orelse env) Q E' { s with heap := h, toks := tk }) :
    codeAny (model prog w) A (.forLoop (.Tuple elts x1 pos) (.ref I) body orelse env) (fun r s' => match r with | .ok f => Q f s' | .error e => E e s') s := by
  refine codeAny_forLoop_any (fun k s' => ∃ h' tk i, s' = { s with heap := h', toks := tk } ∧ St i h' ∧ J i h' ∧ i ≤ n ∧ k = n - i) ?_ n ⟨s.heap, s.toks, 0, rfl, hst, hJ, Nat.zero_le _, rfl⟩
  rintro k s' ⟨h', tk, i, rfl, hst', hJ', hi, rfl⟩
  by_cases hlt : i < n
  · refine W.item i _ _ _ hlt hst' fun T vals h₁ tk₁ hP hT hIs hM hk₁ => ?_
    refine W.go _ _ _ _ _ _ _ _ hM fun h₂ hst₂ hk₂ => ?_
    refine wpAny_mono (turn i T vals h₂ tk₁ _ hlt hP (hIs.at fun o e => hk₂ _ o (W.apart _ _ _ hM) e) hst₂ (hwr _ _ _ (hwr _ _ _ hJ' hk₁) hk₂)) (fun _ s₂ h₂ => wpAny_mono h₂ (fun f s₃ h₃ => ?_) fun _ _ e => e) fun _ _ e => e
    cases f with
    | next => obtain ⟨h', tk', e, a, b⟩ := h₃; exact ⟨n - (i + 1), by omega, h', tk', i + 1, e, a, b, hlt, rfl⟩
    | cont => obtain ⟨h', tk', e, a, b⟩ := h₃; exact ⟨n - (i + 1), by omega, h', tk', i + 1, e, a, b, hlt, rfl⟩
    | brk => exact h₃
    | ret v => exact h₃
  · have : i = n := by omega
    subst this
    refine W.done _ _ _ hst' fun h₁ tk₁ hk₁ => ?_
    exact done h₁ tk₁ _ (hwr _ _ _ hJ' hk₁)
end
end Mine
end
section
open PySem PySem.W PySem.W.X PySem.W.XRun PyProof.Rows PySem.Calls
set_option Elab.async false
set_option maxRecDepth 100000
namespace Mine
noncomputable def hitP (k : Nat) (n : Int) (p : Pr) : Bool := if k = 0 then Builtin.bitAnd n 61440 == p.bit else Builtin.bitAnd n p.bit == p.bit
noncomputable def sgnT (k : Nat) (n : Int) (ps : List Pr) : Nat := ((ps.find? (hitP k n)).map Pr.ch).getD (if k = 0 then 63 else 45)
noncomputable def fmL (n : Int) : List Nat := fmT.mapIdx fun k t => sgnT k n t.2
theorem mem2 {α : Type} {x a b : α} (h : x ∈ [a]) : x ∈ [a, b] := List.mem_cons.mpr (.inl (List.mem_singleton.mp h))
noncomputable abbrev one (c : Nat) : Str := ⟨#[c]⟩
section
variable {prog : Program} {w : World} {A : Around} {E : Value → Shared → Prop} {s : Shared}
theorem appF {env : Env} {x : Str} {elt : Expr} {px pa pc pe : Pos} {pp L : Addr} {l : List (Str × Tok)} {v : Str × Tok} {bs : List (Str × Value)} {h₀ : Heap} {Q : Flow → Shared → Prop} (F : Fm h₀ s.heap L bs) (hx : (x, .ref pp) ∈ bs)
    (hp : PlainL s.heap pp (strValues l).toArray) (hl : l.length ≤ 20) (hLp : L ≠ pp) (h0 : h₀.get? pp = none)
    (he : ∀ Q' E', (∀ tk, Q' (.str v.1 v.2) { s with toks := tk }) → wpAny (model prog w) A (eval elt env) Q' E' s)
    (h : ∀ h' tk, Fm h₀ h' L bs → PlainL h' pp (strValues (l ++ [v])).toArray → Off [pp] s.heap h' → Q .next { s with heap := h', toks := tk })
    (hL : env.locals = L) (hk : env.scope.kind = .function) (hloc : env.kindOf x = some .local) (hd : (x == ("__debug__" : Str)) = false)
    (hbase : attributeBase (.Name x px) "append" env (eval (.Name x px) env) = eval (.Name x px) env)
    (hfew : ((backTo pc (starEach [elt] env)).all (fun x => !x.1) && (backToKw pc (keywordEach [] env)).all (fun x => x.1.isSome)
      && decide (([elt] : List Expr).length + ([] : List Keyword).length + (if ([] : List Keyword).isEmpty then 0 else 1) < 30)) = true)
    (hline : (pa.endLine == pc.line) = true)
    (htrees : backTo pc (starEach [elt] env) = [(false, eval elt env)])
    (hi : interactive env = false) (hs : swapsWith (.Call (.Attribute (.Name x px) "append" pa) [elt] [] pc) none pe.line env = pure false) :
    wpAny (model prog w) A (exec (.Expr (.Call (.Attribute (.Name x px) "append" pa) [elt] [] pc) pe) env) Q E s := by
  refine wpAny_Expr (wpAny_Call_append hbase hfew hline htrees (ldF F hx ⟨pp, _, rfl, hp, ?_⟩ hL hk hloc hd)) hi hs
  refine he _ _ fun tk => list_append_plainL hp (fun h' hp' k => ?_) ?_
  · refine h h' tk (F.off (Off.of_same k) (by simpa using hLp) (by intro b hb; rw [List.mem_singleton] at hb; subst hb; exact h0)) ?_ (Off.of_same k)
    simpa [strValues] using hp'
  · have : ((strValues l).toArray.size : Nat) = l.length := by simp [strValues]
    rw [this]
    exact Nat.le_trans hl (by decide)
end
theorem mb_enumerate (P : Params) : mb P N.n_enumerate = some (.type "enumerate") := by kernel_rfl
theorem mg_enumerate (P : Params) : mg P N.n_enumerate = none := by kernel_rfl
theorem mg_filemode_table (P : Params) : mg P N.n_filemode_table = some (.ref 77) := by kernel_rfl
theorem mg_S_IFMT (P : Params) : mg P N.n_S_IFMT = some (.ref 44) := by kernel_rfl
set_option maxHeartbeats 1000000 in
theorem fmode {w : World} {A : Around} {E : Value → Shared → Prop} {s : Shared} {n : Int} {t : Tok} {Q : Value → Shared → Prop}
    (ok : AOk A) (hu : A.units ≤ 1000) (hdp : A.depth ≤ 350) (B : Bas w.params s.heap)
    (h : ∀ t h' tk, Kp s.heap h' → Q (.str ⟨(fmL n).toArray⟩ t) { s with heap := h', toks := tk }) :
    wpAny (model prog w) A (call (.ref 84) [.int n t]) Q E s := by
  refine A_defE (hco := by rfl) (hgen := by rfl) (hk := by rfl) (hcell := by decide) [(N.n_mode, .int n t)] (by omega) (B.at 84 rfl (by decide)) (by exact rfl) B.lim (B.code (c := 83) (by rfl) (by decide) (by exact rfl) (by exact rfl)) (by exact rfl) (by kernel_rfl) (by show [N.n_mode].Nodup; decide) (by exact locs rfl) ?_
  rintro A2 h₁ L tk ⟨a1, a2, a3⟩ hL F
  have ok2 : AOk A2 := ⟨a1.trans ok.handled, by omega, by omega⟩
  refine wpAny_execs_cons (wpAny_Assign_Name (wpAny_List_spliced (spliced_nil ⟨by decide, ?_⟩)))
  dsimp only
  have gp : h₁.get? h₁.objs.size = none := by simp [Heap.get?]
  have hLp := F.ne gp
  have h0p := F.gone gp
  generalize hpp : h₁.objs.size = pp at hLp h0p ⊢
  have p1 : PlainL (h₁.push { cls := .type "list", data := .seq #[] }) pp (strValues []).toArray := by
    subst hpp; exact ⟨_, _, Heap.get?_push_size _ rfl, rfl, rfl, rfl⟩
  refine stF (hL := by rfl) (hk := by rfl) (hl := by rfl) [(N.n_perm, .ref pp), (N.n_mode, .int n t)] (F.kp (kp_push _ _)) rfl fun h₂ F2 k₂ => any_tok (s := s) (hp := h₂) fun tk₂ => ?_
  have p2 : PlainL h₂ pp (strValues []).toArray := p1.extBut k₂.extBut (Ne.symm hLp)
  clear p1 k₂ F gp hpp
  have B2 := B.keeps F2.keep
  refine wpAny_execs_cons (wpAny_For (A_call1 (he := by rfl) (f := .type "enumerate") (lbui (hk := by rfl) (hl := by rfl) (hd := by rfl) B2.g (mg_enumerate _) B2.b (mb_enumerate _) ⟨rfl, ?_⟩)))
  refine lglo (hk := by rfl) (hl := by rfl) (hd := by rfl) B2.g (mg_filemode_table _) ⟨calT, any_weak ok2 (enumM _ _ _ 77 _ _ (B2 _ _ (fm_top _) (by decide)) _ _ ?_)⟩
  rintro v h₃ tk₃ ⟨e, it, rfl, ge, gi, ne, ni, k₃⟩
  have g77 := k₃ _ _ (B2 _ _ (fm_top _) (by decide))
  have hei : e ≠ it := by rintro rfl; rw [ge] at gi; simp at gi
  have h77 : ∀ {x : Addr}, h₂.get? x = none → (77 : Nat) ≠ x := by
    intro x hx q; rw [← q, B2 _ _ (fm_top _) (by decide)] at hx; cases hx
  have W := WalksT.enumerateD (drawsTuple (prog := prog) (w := w) (A := A2.in1) ok2.handled it 77 (h77 ni) (fmT.map fun t => Value.ref t.1).toArray) e hei (nm2 hei (Ne.symm (h77 ne))) (by simp)
  have hLe := F2.ne ne
  have hLi := F2.ne ni
  have hL77 : L ≠ 77 := by
    rintro rfl; have := Heap.lt_size (B _ _ (fm_top _) (by decide)); rw [← hL] at this; exact absurd this (Nat.lt_irrefl _)
  have hpe : pp ≠ e := fun q => by obtain ⟨o, _, x, _⟩ := p2; rw [q, ne] at x; cases x
  have hpi : pp ≠ it := fun q => by obtain ⟨o, _, x, _⟩ := p2; rw [q, ni] at x; cases x
  have hp77 : pp ≠ 77 := fun q => by rw [q, B _ _ (fm_top _) (by decide)] at h0p; cases h0p
  refine W.self 0 _ _ _ ⟨⟨_, ge⟩, ⟨_, gi, rfl, rfl⟩, ⟨_, g77, rfl, _, rfl⟩⟩ ?_
  refine forT W (J := fun k hh => ∃ l : List (Str × Tok), l.map (·.1) = ((fmL n).take k).map one ∧ Fm s.heap hh L [(N.n_perm, .ref pp), (N.n_mode, .int n t)] ∧ PlainL hh pp (strValues l).toArray)
    ⟨⟨_, ge⟩, ⟨_, gi, rfl, rfl⟩, ⟨_, g77, rfl, _, rfl⟩⟩ ⟨[], rfl, F2.kp k₃, p2.keeps k₃⟩ ?_ ?_ ?_
  · rintro i g g' ⟨l, el, F, p⟩ k
    refine ⟨l, el, F.off k (nm2 hLe hLi) ?_, ?_⟩
    · exact all2 (F2.gone ne) (F2.gone ni)
    · obtain ⟨o, m, x, r⟩ := p
      exact ⟨o, m, k _ _ (nm2 hpe hpi) x, r⟩
  · rintro k T vals g tk' E' hk ⟨tx, x, hx, rfl⟩ hT hst ⟨l, el, F, p⟩
    have hx' : ∃ tt, fmT[k]? = some tt ∧ x = .ref tt.1 := by
      rw [List.getElem?_toArray, List.getElem?_map, Option.map_eq_some_iff] at hx
      obtain ⟨tt, e1, e2⟩ := hx
      exact ⟨tt, e1, e2.symm⟩
    obtain ⟨tt, htt, rfl⟩ := hx'
    have hmem : tt ∈ fmT := List.mem_of_getElem? htt
    have hlen : l.length ≤ 20 := by
      have := congrArg List.length el
      rw [List.length_map, List.length_map, List.length_take] at this
      have e10 : (fmL n).length = 10 := by simp [fmL]
      omega
    have snoc : ∀ (c : Nat) (u : Tok), c = sgnT k n tt.2 → (l ++ [(one c, u)]).map (·.1) = ((fmL n).take (k + 1)).map one := by
      rintro c u rfl
      rw [List.map_append, el, List.take_add_one]
      have : (fmL n)[k]? = some (sgnT k n tt.2) := by unfold fmL; rw [List.getElem?_mapIdx, htt]; rfl
      rw [this]; simp
    refine asg2 (hL := by rfl) (hk := by rfl) (hl := by rfl) (hl' := by rfl) [(N.n_index, .int k tx), (N.n_perm, .ref pp), (N.n_mode, .int n t)] [(N.n_table, .ref tt.1), (N.n_index, .int k tx), (N.n_perm, .ref pp), (N.n_mode, .int n t)] ok2.handled hT F rfl rfl fun g₂ tk₂ F3 k₃' => any_tok (s := s) (hp := g₂) fun tk₂ => absQ fun K hK => ?_
    have p3 : PlainL g₂ pp (strValues l).toArray := by
      obtain ⟨o, m, x, r⟩ := p; exact ⟨o, m, k₃' _ _ (nm1 (Ne.symm hLp)) x, r⟩
    have hst3 := W.frame _ _ g₂ hst (all3 (fun o x => k₃' _ o (nm1 (Ne.symm hLe)) x) (fun o x => k₃' _ o (nm1 (Ne.symm hLi)) x) fun o x => k₃' _ o (nm1 (Ne.symm hL77)) x)
    clear p F k₃' hT hst
    have B3 := B.keeps F3.keep
    obtain ⟨gt, gps⟩ := fm_tab B hmem
    refine wpAny_execs_cons (wpAny_For (ldF (hL := by rfl) (hk := by rfl) (hl := by rfl) (hd := by rfl) F3 (by k_mem) (wpAny_pyIter_tuple ⟨_, F3.keep _ _ gt, rfl, _, rfl⟩ ?_)))
    dsimp only
    generalize hI : g₂.objs.size = I
    have nI : g₂.get? I = none := by subst hI; simp [Heap.get?]
    have lv : ∀ {b : Addr} {o : Obj}, g₂.get? b = some o → b ≠ I := fun e q => by rw [q, nI] at e; cases e
    have hLI := F3.ne nI
    have hpI : pp ≠ I := by obtain ⟨o, _, x, _⟩ := p3; exact lv x
    have htI : tt.1 ≠ I := lv (F3.keep _ _ gt)
    have W2 := Walks.tuple (prog := prog) (w := w) (A := A2) ok2.handled I tt.1 htI (tt.2.map fun p => Value.ref p.at').toArray
    -- the turn's end
    have fin : ∀ h' l', l'.map (·.1) = ((fmL n).take (k + 1)).map one → Fm s.heap h' L [(N.n_index, .int k tx), (N.n_perm, .ref pp), (N.n_mode, .int n t)] → PlainL h' pp (strValues l').toArray → Off [L, pp] g₂ h' →
        ((∃ old, IsEnum h' e it ((k + 1 : Nat) : Int) old) ∧ h'.IsTupleIter it 77 (k + 1) ∧ h'.IsTuple 77 (fmT.map fun t => Value.ref t.1).toArray) ∧ ∃ l : List (Str × Tok), l.map (·.1) = ((fmL n).take (k + 1)).map one ∧ Fm s.heap h' L [(N.n_perm, .ref pp), (N.n_mode, .int n t)] ∧ PlainL h' pp (strValues l).toArray := fun h' l' e F p k =>
      ⟨W.frame _ _ _ hst3 (all3 (fun o x => k _ o (nm2 (Ne.symm hLe) (Ne.symm hpe)) x) (fun o x => k _ o (nm2 (Ne.symm hLi) (Ne.symm hpi)) x) fun o x => k _ o (nm2 (Ne.symm hL77) (Ne.symm hp77)) x), l', e, F.less (fun q hq => .tail _ hq), p⟩
    refine forW W2 (J := fun j hh => Fm s.heap hh L [(N.n_index, .int k tx), (N.n_perm, .ref pp), (N.n_mode, .int n t)] ∧ PlainL hh pp (strValues l).toArray ∧ Off [L, pp] g₂ hh ∧ ∀ q ∈ tt.2.take j, hitP k n q = false)
      ⟨⟨_, by subst hI; exact Heap.get?_push_size _ rfl, rfl, rfl⟩, ⟨_, kp_push _ _ _ _ (F3.keep _ _ gt), rfl, _, rfl⟩⟩ ⟨(F3.less (fun q hq => .tail _ hq)).kp (kp_push _ _), p3.keeps (kp_push _ _), Off.of_kp (kp_push _ _), by simp⟩ ?_ ?_ ?_
    · rintro j h h' ⟨F, p, o, q⟩ kk
      refine ⟨F.off kk (nm1 hLI) (fun b hb => ?_), ?_, ?_, q⟩
      · rw [List.mem_singleton] at hb; subst hb; exact F3.gone nI
      · obtain ⟨o, m, x, r⟩ := p; exact ⟨o, m, kk _ _ (nm1 hpI) x, r⟩
      · intro b o' hb e; exact kk b o' (by rw [List.mem_singleton]; exact lv e) (o b o' hb e)
    · rintro j v g₄ tk₄ E₄ hj hv st ⟨F, p, o, q⟩
      have hv' : ∃ pr, tt.2[j]? = some pr ∧ v = .ref pr.at' := by
        rw [List.getElem?_toArray, List.getElem?_map, Option.map_eq_some_iff] at hv
        obtain ⟨pr, e1, e2⟩ := hv
        exact ⟨pr, e1, e2.symm⟩
      obtain ⟨pr, hpr, rfl⟩ := hv'
      refine go_tupleiter st.1 ?_
      have gpr := F.keep _ _ (gps pr (List.mem_of_getElem? hpr))
      refine asg2 (hL := by rfl) (hk := by rfl) (hl := by rfl) (hl' := by rfl) [(N.n_bit, .int pr.bit pr.tb), (N.n_index, .int k tx), (N.n_perm, .ref pp), (N.n_mode, .int n t)] [(N.n_char, .str (one pr.ch) pr.tc), (N.n_bit, .int pr.bit pr.tb), (N.n_index, .int k tx), (N.n_perm, .ref pp), (N.n_mode, .int n t)] ok2.handled ⟨_, gpr, rfl, _, rfl⟩ F rfl rfl fun g₅ tk₅ F5 k₅ => any_tok (s := s) (hp := g₅) fun tk₅ => absQ fun K2 hK2 => ?_
      have B5 := B.keeps F5.keep
      have p5 : PlainL g₅ pp (strValues l).toArray := by
        obtain ⟨o, m, x, r⟩ := p; exact ⟨o, m, k₅ _ _ (nm1 (Ne.symm hLp)) x, r⟩
      have o5 : Off [L, pp] g₂ g₅ := fun b o' hb e => k₅ b o' (fun hm => hb (mem2 hm)) (o b o' hb e)
      have st5 := W2.frame _ _ g₅ st (all2 (fun o x => k₅ _ o (nm1 (Ne.symm hLI)) x) fun o x => k₅ _ o (nm1 fun q => by
            have := Heap.lt_size gt; rw [q, hL] at this; exact absurd this (Nat.lt_irrefl _)) x)
      clear p o k₅ F st gpr
      have q' : hitP k n pr = false → ∀ q ∈ tt.2.take (j + 1), hitP k n q = false := by
        intro hq r hr
        rw [List.take_add_one, hpr] at hr
        rcases List.mem_append.mp hr with hr | hr
        · exact q r hr
        · simp at hr; rw [hr]; exact hq
      have sg : hitP k n pr = true → pr.ch = sgnT k n tt.2 := by
        intro hq
        unfold sgnT
        have : tt.2.find? (hitP k n) = some pr := by
          have hjl : j < tt.2.length := (List.getElem?_eq_some_iff.mp hpr).1
          have e := List.take_append_drop j tt.2
          rw [← e, List.find?_append]
          rw [List.find?_eq_none.mpr (fun r hr => by rw [q r hr]; decide)]
          rw [List.drop_eq_getElem_cons hjl, (List.getElem?_eq_some_iff.mp hpr).2]
          simp [List.find?_cons, hq]
        rw [this]; rfl
      refine wpAny_execs_cons (wpAny_If (wpAny_isTrue_Compare1 (ldF (hL := by rfl) (hk := by rfl) (hl := by rfl) (hd := by rfl) F5 (by k_mem) (wpAny_Constant_int (PyProof.Rows.eq_int (wpAny_truthy_bool ?_))))))
      by_cases hk0 : k = 0
      · rw [if_pos (by simp [hk0])]
        refine wpAny_execs_cons (wpAny_If (wpAny_isTrue_Compare1 (A_call1 (he := by rfl) (f := .ref 44) (lglo (hk := by rfl) (hl := by rfl) (hd := by rfl) B5.g (mg_S_IFMT _) ⟨rfl, ldF (hL := by rfl) (hk := by rfl) (hl := by rfl) (hd := by rfl) F5 (by k_mem) ⟨calF (B5.at 44 rfl (by decide)) (by exact rfl), ?_⟩⟩))))
        refine ifmt ok2 (by omega) B5 fun t6 g₆ tk₆ k₆ => ?_
        have F6 := F5.kp k₆
        have p6 := p5.keeps k₆
        have o6 : Off [L, pp] g₂ g₆ := fun b o' hb e => k₆ b o' (o5 b o' hb e)
        refine any_tok (s := s) (hp := g₆) fun tk₆ => ldF (hL := by rfl) (hk := by rfl) (hl := by rfl) (hd := by rfl) F6 (by k_mem) (PyProof.Rows.eq_int (wpAny_truthy_bool ?_))
        by_cases hb : (Builtin.bitAnd n 61440 == pr.bit) = true
        · rw [if_pos hb]
          have hit : hitP k n pr = true := by unfold hitP; rw [if_pos hk0]; exact hb
          refine wpAny_execs_cons (appF (hL := by rfl) (hk := by rfl) (hloc := by rfl) (hd := by rfl) (hbase := by rfl) (hfew := by rfl) (hline := by rfl) (htrees := by rfl) (hi := by rfl) (hs := by rfl) (v := (one pr.ch, pr.tc)) F6 (by k_mem) p6 hlen hLp h0p (fun Q' E' hq => ldF (hL := by rfl) (hk := by rfl) (hl := by rfl) (hd := by rfl) F6 (by k_mem) (hq _)) fun g₇ tk₇ F7 p7 o7 => ?_)
          refine wpAny_execs_cons (wpAny_Break ?_)
          exact hK2 _ _ (wpAny_execs_nil <| hK _ _ ⟨_, _, rfl, fin _ _ (snoc _ _ (sg hit)) (F7.less (fun q hq => .tail _ (.tail _ hq))) p7 fun b o' hb e => o7 b o' (fun hm => hb (.tail _ hm)) (o6 b o' hb e)⟩)
        · rw [if_neg hb]
          have hit : hitP k n pr = false := by unfold hitP; rw [if_pos hk0]; simpa using hb
          exact wpAny_execs_nil (wpAny_execs_nil (wpAny_execs_nil (hK2 _ _ ⟨_, _, rfl, W2.frame _ _ _ st5 (fun b _ o x => k₆ b o x), F6.less (fun q hq => .tail _ (.tail _ hq)), p6, o6, q' hit⟩)))
      · rw [if_neg (by simp; omega)]
        refine wpAny_execs_cons (wpAny_If (wpAny_isTrue_Compare1 (wpAny_BinOp (ldF (hL := by rfl) (hk := by rfl) (hl := by rfl) (hd := by rfl) F5 (by k_mem) (ldF (hL := by rfl) (hk := by rfl) (hl := by rfl) (hd := by rfl) F5 (by k_mem) (and_int (ldF (hL := by rfl) (hk := by rfl) (hl := by rfl) (hd := by rfl) F5 (by k_mem) (PyProof.Rows.eq_int (wpAny_truthy_bool ?_)))))))))
        by_cases hb : (Builtin.bitAnd n pr.bit == pr.bit) = true
        · rw [if_pos hb]
          have hit : hitP k n pr = true := by unfold hitP; rw [if_neg hk0]; exact hb
          refine wpAny_execs_cons (appF (hL := by rfl) (hk := by rfl) (hloc := by rfl) (hd := by rfl) (hbase := by rfl) (hfew := by rfl) (hline := by rfl) (htrees := by rfl) (hi := by rfl) (hs := by rfl) (v := (one pr.ch, pr.tc)) F5 (by k_mem) p5 hlen hLp h0p (fun Q' E' hq => ldF (hL := by rfl) (hk := by rfl) (hl := by rfl) (hd := by rfl) F5 (by k_mem) (hq _)) fun g₇ tk₇ F7 p7 o7 => ?_)
          refine wpAny_execs_cons (wpAny_Break ?_)
          exact hK2 _ _ (wpAny_execs_nil <| hK _ _ ⟨_, _, rfl, fin _ _ (snoc _ _ (sg hit)) (F7.less (fun q hq => .tail _ (.tail _ hq))) p7 fun b o' hb e => o7 b o' (fun hm => hb (.tail _ hm)) (o5 b o' hb e)⟩)
        · rw [if_neg hb]
          have hit : hitP k n pr = false := by unfold hitP; rw [if_neg hk0]; simpa using hb
          exact wpAny_execs_nil (wpAny_execs_nil (wpAny_execs_nil (hK2 _ _ ⟨_, _, rfl, st5, F5.less (fun q hq => .tail _ (.tail _ hq)), p5, o5, q' hit⟩)))
    · rintro g₄ tk₄ E₄ ⟨F, p, o, q⟩
      have none : tt.2.find? (hitP k n) = none := List.find?_eq_none.mpr (fun r hr => by
        rw [q r (by rw [List.take_of_length_le (by simp)]; exact hr)]; decide)
      refine any_tok (s := s) (hp := g₄) fun tk₄ => wpAny_execs_cons (wpAny_If (wpAny_isTrue_Compare1 (ldF (hL := by rfl) (hk := by rfl) (hl := by rfl) (hd := by rfl) F (by k_mem) (wpAny_Constant_int (PyProof.Rows.eq_int (wpAny_truthy_bool ?_))))))
      by_cases hk0 : k = 0
      · rw [if_pos (by simp [hk0])]
        refine wpAny_execs_cons (appF (hL := by rfl) (hk := by rfl) (hloc := by rfl) (hd := by rfl) (hbase := by rfl) (hfew := by rfl) (hline := by rfl) (htrees := by rfl) (hi := by rfl) (hs := by rfl) (v := (one 63, _)) F (by k_mem) p hlen hLp h0p (fun Q' E' hq => wpAny_Constant_str (hq _)) fun g₇ tk₇ F7 p7 o7 => ?_)
        refine wpAny_execs_nil (wpAny_execs_nil (wpAny_execs_nil (hK _ _ ⟨_, _, rfl, fin _ _ (snoc _ _ ?_) F7 p7 fun b o' hb e => o7 b o' (fun hm => hb (.tail _ hm)) (o b o' hb e)⟩)))
        unfold sgnT; rw [none, if_pos hk0]; rfl
      · rw [if_neg (by simp; omega)]
        refine wpAny_execs_cons (appF (hL := by rfl) (hk := by rfl) (hloc := by rfl) (hd := by rfl) (hbase := by rfl) (hfew := by rfl) (hline := by rfl) (htrees := by rfl) (hi := by rfl) (hs := by rfl) (v := (one 45, _)) F (by k_mem) p hlen hLp h0p (fun Q' E' hq => wpAny_Constant_str (hq _)) fun g₇ tk₇ F7 p7 o7 => ?_)
        refine wpAny_execs_nil (wpAny_execs_nil (wpAny_execs_nil (hK _ _ ⟨_, _, rfl, fin _ _ (snoc _ _ ?_) F7 p7 fun b o' hb e => o7 b o' (fun hm => hb (.tail _ hm)) (o b o' hb e)⟩)))
        unfold sgnT; rw [none, if_neg hk0]; rfl
  · rintro g tk' E' ⟨l, el, Fx, p⟩
    refine wpAny_execs_nil (wpAny_execs_cons (wpAny_Return_some ?_))
    refine wpAny_Call_method1_late rfl rfl rfl (wpAny_Constant_str ⟨"str", _, F.plainAttrs_str, F.slot_str_join, F.type_str_join, typeIs_str _ _ _, (fun _ e => nomatch e), Calls.callWith_builtin rfl (evalArgs_plain (spliced_cons (ldF (hL := by rfl) (hk := by rfl) (hl := by rfl) (hd := by rfl) Fx (by k_mem) (spliced_nil ?_))))⟩)
    obtain ⟨c0, c1, c2, c3, c4, c5, c6, c7, c8, c9, ec⟩ : ∃ c0 c1 c2 c3 c4 c5 c6 c7 c8 c9, fmL n = [c0, c1, c2, c3, c4, c5, c6, c7, c8, c9] := ⟨_, _, _, _, _, _, _, _, _, _, rfl⟩
    rw [ec] at el h
    refine SC.join (texts := [c0, c1, c2, c3, c4, c5, c6, c7, c8, c9].map one) p.isList el (by rfl) fun t' k => ?_
    exact h t' _ _ Fx.keep
end Mine
end
section
open PySem PySem.W PySem.W.X PySem.W.XRun PyProof.Rows PySem.Calls
set_option Elab.async false
set_option maxRecDepth 100000
namespace Mine
section
variable {prog : Program} {w : World} {A : Around} {E : Value → Shared → Prop} {s : Shared}
theorem drawL {it t : Addr} {items : Array Value} (hne : t ≠ it) : ∀ (n i : Nat) (s : Shared) (Q : List Value → Shared → Prop), s.heap.IsListIter it t i → s.heap.IsList t items → i + n ≤ items.size →
    (∀ h', h'.IsListIter it t (i + n) → Off [it] s.heap h' → Q ((items.toList.drop i).take n) { s with heap := h' }) → wpAny (model prog w) A (draw (.ref it) n) Q E s
  | 0, i, s, Q, hit, _, _, hQ => wpAny_pure (by simpa using hQ s.heap hit fun _ _ _ e => e)
  | n + 1, i, s, Q, hit, ht, hle, hQ => by
    show wpAny _ _ (pyNext (.ref it) >>= _) Q E s
    have hi : i < items.size := by lia
    refine wpAny_bind (wpAny_pyNext_list_item hit ht (x := items[i]) (by simp [hi]) fun h₁ it₁ k₁ => ?_)
    refine wpAny_bind (wpAny_holding (drawL hne n (i + 1) _ _ it₁ (ht.extBut k₁.extBut hne) (by lia) fun h₂ it₂ k₂ => wpAny_pure ?_))
    have e : (items.toList.drop i).take (n + 1) = items[i] :: (items.toList.drop (i + 1)).take n := by
      rw [List.drop_eq_getElem_cons (by simpa using hi), List.take_succ_cons]; simp
    rw [← e]
    exact hQ h₂ (by rw [show i + (n + 1) = i + 1 + n by lia]; exact it₂) fun b o hb q => k₂ b o hb (Off.of_same k₁ b o hb q)
theorem unpackL {t : Addr} {items : Array Value} {targets : List (Bool × (Value → Sem Unit))} {Q : Unit → Shared → Prop} (hh : A.handled = none) (ht : s.heap.IsList t items)
    (hn : targets.length = items.size) (hstar : targets.findIdx? (·.1) = none)
    (h : ∀ h', Kp s.heap h' → wpAny (model prog w) A (assignInOrder (targets.map (·.2)) items.toList) Q E { s with heap := h' }) :
    wpAny (model prog w) A (unpack (.ref t) targets) Q E s := by
  have hlt : t ≠ s.heap.objs.size := by obtain ⟨o, ho, _⟩ := ht; exact Nat.ne_of_lt (Heap.lt_size ho)
  unfold unpack
  rw [hn, hstar]
  refine wpAny_bind (wpAny_holding ?_)
  unfold unpackItems
  refine wpAny_bind ?_
  unfold notIterableAtAll
  refine wpAny_bind (wpAny_specialOf ht.typeIs F.slot_list_iter.lookup ?_)
  refine wpAny_pure ?_
  simp only [Bool.false_eq_true, if_false]
  refine wpAny_bind (wpAny_holding (wpAny_pyIter_list ht ?_))
  refine wpAny_bind (wpAny_holding (drawL hlt items.size 0 _ _ ⟨_, Heap.get?_push_size _ rfl, rfl, rfl⟩ (ht.push _) (by lia) fun h₁ it₁ k₁ => ?_))
  have all : List.take items.size (List.drop 0 items.toList) = items.toList := by rw [List.drop_zero]; exact List.take_of_length_le (by simp)
  rw [all, if_neg (by simp)]
  have t₁ : h₁.IsList t items := (ht.push _).at fun o e => k₁ _ o (by simpa using hlt) e
  refine wpAny_bind (wpAny_holding (wpAny_pyNext_list_end hh it₁ t₁ (by simp) fun h₂ k₂ => ?_))
  simp only [Option.isSome_none, Bool.false_eq_true, if_false]
  refine wpAny_pure (h h₂ fun b o e => ?_)
  have hb : b ≠ s.heap.objs.size := Nat.ne_of_lt (Heap.lt_size e)
  exact k₂ b o hb (k₁ b o (by simpa using hb) (Heap.get?_push_of_some _ e))
theorem asgL2 {env : Env} {x y : Str} {px py pos : Pos} {x1} {t : Addr} {v v' : Value} {h₀ : Heap} {L : Addr} {bs : List (Str × Value)} {Q : Unit → Shared → Prop} (bs' bs'' : List (Str × Value)) (hh : A.handled = none) (ht : s.heap.IsList t #[v, v'])
    (F : Fm h₀ s.heap L bs) (hb : bs' = (x, v) :: bs.filter fun p => !(p.1 == x)) (hb' : bs'' = (y, v') :: bs'.filter fun p => !(p.1 == y))
    (h : ∀ h' tk, Fm h₀ h' L bs'' → Off [L] s.heap h' → Q () { s with heap := h', toks := tk })
    (hL : env.locals = L) (hk : env.scope.kind = .function) (hl : env.kindOf x = some .local) (hl' : env.kindOf y = some .local) :
    wpAny (model prog w) A (assign (.Tuple [.Name x px, .Name y py] x1 pos) env (.ref t)) Q E s := by
  rw [arm_assign_Tuple]
  refine wpAny_bind (wpAny_standAt (unpackL hh ht rfl rfl fun h₁ k₁ => ?_))
  show wpAny _ _ (assignInOrder [_, _] [v, v']) _ _ _
  refine wpAny_assignInOrder_more (wpAny_assign_Name (stF bs' (F.kp k₁) hb (fun h₂ F2 k₂ => ?_) hL hk hl))
  refine wpAny_assignInOrder_more (wpAny_assign_Name (stF bs'' F2 hb' (fun h₃ F3 k₃ => wpAny_assignInOrder_none ?_) hL hk hl'))
  exact h _ _ F3 fun b o hb e => Off.of_same k₃ b o hb (Off.of_same k₂ b o hb (k₁ b o e))
end
end Mine
end
section
open PySem PySem.W PySem.W.X PySem.W.XRun PyProof.Rows PySem.Calls
set_option Elab.async false
set_option maxRecDepth 100000
namespace Mine
noncomputable def typeCh (m : Int) : Nat := if m = 10 then 108 else if m = 12 then 115 else if m = 8 then 45 else if m = 6 then 98 else if m = 4 then 100 else if m = 2 then 99 else if m = 1 then 112 else 63
noncomputable def sgTurn (n : Int) (k lo up : Nat) : List Nat :=
  let th := (n.fdiv (8 ^ k)).fmod 8
  [cond (decide (3 < th)) 114 45, cond ((th.fdiv 2).fmod 2 == 1) 119 45,
    cond (((n.fdiv 512).fdiv (2 ^ k)).fmod 2 == 1) (cond (th.fmod 2 == 1) lo up) (cond (th.fmod 2 == 1) 120 45)]
noncomputable def sgs : List (Nat × Nat × Nat) := [(2, 115, 83), (1, 115, 83), (0, 116, 84)]
noncomputable def sgL (n : Int) (i : Nat) : List Nat := typeCh ((n.fdiv 4096).fmod 16) :: (sgs.take i).flatMap fun x => sgTurn n x.1 x.2.1 x.2.2
noncomputable def sgAt (i : Nat) : Nat × Nat × Nat := sgs.getD i (0, 0, 0)
theorem sgL_succ (n : Int) (i : Nat) (hi : i < 3) : sgL n (i + 1) = sgL n i ++ sgTurn n (sgAt i).1 (sgAt i).2.1 (sgAt i).2.2 := by
  obtain rfl | rfl | rfl : i = 0 ∨ i = 1 ∨ i = 2 := by lia
  all_goals simp [sgL, sgs, sgAt]
theorem sgL_len (n : Int) (i : Nat) (hi : i ≤ 3) : (sgL n i).length ≤ 10 := by
  obtain rfl | rfl | rfl | rfl : i = 0 ∨ i = 1 ∨ i = 2 ∨ i = 3 := by lia
  all_goals exact Nat.le_of_ble_eq_true rfl
theorem sgAt_k (i : Nat) (hi : i < 3) : (sgAt i).1 ≤ 2 ∧ Txt.upper (one (sgAt i).2.1) = one (sgAt i).2.2 := by
  obtain rfl | rfl | rfl : i = 0 ∨ i = 1 ∨ i = 2 := by lia
  all_goals exact ⟨by decide, by kernel_rfl⟩
theorem pw8 (k : Nat) (hk : k ≤ 2) : ((8 : Int) ^ ((k : Int).toNat)) ≠ 0 ∧ ((8 : Int) ^ ((k : Int).toNat)).natAbs < 1073741824 ∧ ((2 : Int) ^ ((k : Int).toNat)) ≠ 0 ∧ ((2 : Int) ^ ((k : Int).toNat)).natAbs < 1073741824 := by
  obtain rfl | rfl | rfl : k = 0 ∨ k = 1 ∨ k = 2 := by lia
  all_goals decide
noncomputable abbrev txt (l : List Nat) : Str := ⟨l.toArray⟩
theorem txt_app (l l' : List Nat) : txt l ++ txt l' = txt (l ++ l') := by
  show Str.mk (l.toArray ++ l'.toArray) = _
  simp [txt]
noncomputable def tyP (t1 t2 t3 t4 t5 t6 t7 : Tok) : List (Int × Value) := [(10, .str (one 108) t1), (12, .str (one 115) t2), (8, .str (one 45) t3), (6, .str (one 98) t4), (4, .str (one 100) t5), (2, .str (one 99) t6), (1, .str (one 112) t7)]
theorem typeCh_at (m : Int) (t1 t2 t3 t4 t5 t6 t7 t8 : Tok) : ∃ t, (valueAt (K := Int) (tyP t1 t2 t3 t4 t5 t6 t7) m).getD (.str (one 63) t8) = .str (one (typeCh m)) t := by
  unfold typeCh valueAt tyP
  by_cases h1 : m = 10
  · subst h1; exact ⟨_, rfl⟩
  by_cases h2 : m = 12
  · subst h2; exact ⟨_, rfl⟩
  by_cases h3 : m = 8
  · subst h3; exact ⟨_, rfl⟩
  by_cases h4 : m = 6
  · subst h4; exact ⟨_, rfl⟩
  by_cases h5 : m = 4
  · subst h5; exact ⟨_, rfl⟩
  by_cases h6 : m = 2
  · subst h6; exact ⟨_, rfl⟩
  by_cases h7 : m = 1
  · subst h7; exact ⟨_, rfl⟩
  simp only [h1, h2, h3, h4, h5, h6, h7, if_false]
  refine ⟨t8, ?_⟩
  simp [Ne.symm h1, Ne.symm h2, Ne.symm h3, Ne.symm h4, Ne.symm h5, Ne.symm h6, Ne.symm h7]
theorem lns {α : Type} {l : List α} {n : Nat} (h : l.length = n) (k : n ≤ 40) : l.length ≤ sizeLine := by rw [sizeLine_eq]; lia
section
variable {prog : Program} {w : World} {A : Around} {E : Value → Shared → Prop} {s : Shared} {env : Env}
theorem ifS {test body orelse : Expr} {pos : Pos} {b : Bool} {cx cy : Nat} {Q : Value → Shared → Prop}
    (ht : ∀ Q' : Bool → Shared → Prop, (∀ tk, Q' b { s with toks := tk }) → wpAny (model prog w) A (isTrue test env (eval test env)) Q' E s)
    (hb : ∀ tk (Q' : Value → Shared → Prop), (∀ t tk, Q' (.str (one cx) t) { s with toks := tk }) → wpAny (model prog w) A (eval body env) Q' E { s with toks := tk })
    (ho : ∀ tk (Q' : Value → Shared → Prop), (∀ t tk, Q' (.str (one cy) t) { s with toks := tk }) → wpAny (model prog w) A (eval orelse env) Q' E { s with toks := tk })
    (h : ∀ t tk, Q (.str (one (cond b cx cy)) t) { s with toks := tk }) : wpAny (model prog w) A (eval (.IfExp test body orelse pos) env) Q E s := by
  refine wpAny_IfExp (ht _ fun tk => ?_)
  cases b
  · exact ho tk _ h
  · exact hb tk _ h
theorem litS {c : Nat} {p : Pos} {Q : Value → Shared → Prop} (h : ∀ t tk, Q (.str (one c) t) { s with toks := tk }) : wpAny (model prog w) A (eval (.Constant (.str (one c)) 0 p) env) Q E s := wpAny_Constant_str (h _ _)
theorem addT {l : List Nat} {c : Nat} {t u : Tok} {Q : Value → Shared → Prop} (hl : l.length ≤ 20) (h : ∀ t tk, Q (.str (txt (l ++ [c])) t) { s with toks := tk }) : wpAny (model prog w) A (binaryOp .Add (.str (txt l) t) (.str (one c) u)) Q E s := by
  refine SB.add (fun t' k => ?_) (by show l.toArray.size + 1 ≤ sizeLine; rw [sizeLine_eq, List.size_toArray]; lia)
  rw [show txt l ++ one c = txt (l ++ [c]) from txt_app l [c]]
  exact h _ _
theorem list2 {k : Int} {x : Str} {p1 p2 pos : Pos} {Q : Value → Shared → Prop} (h : ∀ t t' tk, Q (.ref s.heap.objs.size) { s with heap := s.heap.push { cls := .type "list", data := .seq #[.int k t, .str x t'] }, toks := tk }) :
    wpAny (model prog w) A (eval (.List [.Constant (.int k) 0 p1, .Constant (.str x) 0 p2] pos) env) Q E s := by
  refine wpAny_List_spliced ?_
  rw [show backTo pos (starEach [.Constant (.int k) 0 p1, .Constant (.str x) 0 p2] env) = [(false, eval (.Constant (.int k) 0 p1) env), (false, eval (.Constant (.str x) 0 p2) env)] from rfl]
  refine spliced_cons (wpAny_Constant_int ?_)
  refine spliced_cons (wpAny_Constant_str ?_)
  exact spliced_nil ⟨lns (n := 2) rfl (by lia), h _ _ _⟩
theorem tyP_of {h : Heap} {d : Addr} {t1 t2 t3 t4 t5 t6 t7 : Tok} (hd : h.DictOf (intKind prog w) d [(10, .str (one 108) t1), (12, .str (one 115) t2), (8, .str (one 45) t3), (6, .str (one 98) t4), (4, .str (one 100) t5), (2, .str (one 99) t6), (1, .str (one 112) t7)]) :
    h.DictOf (intKind prog w) d (tyP t1 t2 t3 t4 t5 t6 t7) := hd
theorem tyGet {e : Expr} {a0 b0 a1 b1 a2 b2 a3 b3 a4 b4 a5 b5 a6 b6 pd pc pos pe : Pos} {m : Int} {Q : Value → Shared → Prop} (hbig : 110 < s.heap.objs.size)
    (he : ∀ h' tk Q' E', Kp s.heap h' → (∀ t tk, Q' (.int m t) { s with heap := h', toks := tk }) → wpAny (model prog w) A (eval e env) Q' E' { s with heap := h', toks := tk })
    (h : ∀ t h' tk, Kp s.heap h' → Q (.str (one (typeCh m)) t) { s with heap := h', toks := tk })
    (hline : (pc.endLine == pos.line) = true)
    (htrees : backTo pos (starEach [e, .Constant (.str (one 63)) 0 pe] env) = [(false, eval e env), (false, eval (.Constant (.str (one 63)) 0 pe) env)]) :
    wpAny (model prog w) A (eval (.Call (.Attribute (.Dict [some (.Constant (.int 10) 0 a0), some (.Constant (.int 12) 0 a1), some (.Constant (.int 8) 0 a2), some (.Constant (.int 6) 0 a3), some (.Constant (.int 4) 0 a4), some (.Constant (.int 2) 0 a5), some (.Constant (.int 1) 0 a6)] [.Constant (.str (one 108)) 0 b0, .Constant (.str (one 115)) 0 b1, .Constant (.str (one 45)) 0 b2, .Constant (.str (one 98)) 0 b3, .Constant (.str (one 100)) 0 b4, .Constant (.str (one 99)) 0 b5, .Constant (.str (one 112)) 0 b6] pd) ⟨#[103, 101, 116]⟩ pc) [e, .Constant (.str (one 63)) 0 pe] [] pos) env) Q E s := by
  with_reducible refine wpAny_Call_method2_late ?h1 hline htrees ?_
  case h1 => rfl
  with_reducible refine wpAny_Dict_walk (knd := intKind prog w) ?h1 ?h2 ?h3 ?h4 ?_
  case h1 => rfl
  case h2 => rfl
  case h3 => simp
  case h4 => exact Nat.le_of_ble_eq_true rfl
  iterate 7 with_reducible refine pairTrees_cons_walk (wpAny_Constant_int (wpAny_Constant_str ?_))
  with_reducible refine pairTrees_nil_walk ?_
  refine display_done_int (by rfl) (by show ([10, 12, 8, 6, 4, 2, 1] : List Int).Nodup; decide) (Heap.DictOf.new _) fun h₂ hd k₂ => ?_
  dsimp only at hd k₂ ⊢
  simp only [intKeyPairs] at hd
  have hd := tyP_of hd
  have kp₂ : Kp s.heap h₂ := fun b o q => (k₂.2 b (Nat.ne_of_lt (Heap.lt_size q))).trans (kp_push _ _ _ _ q)
  have hds : (s.heap.objs.size == sysModules) = false := by
    rw [beq_eq_false_iff_ne]; intro q; rw [q] at hbig; exact absurd hbig (by decide)
  refine ⟨"dict", "dict.get", F.plainAttrs_dict, F.slot_dict_get, F.type_dict_get, hd.mapOf.typeIs, hd.mapOf.noDict, wpAny_dict_get2 (knd := intKind prog w) hds ?_⟩
  refine he _ _ _ _ kp₂ fun t tk => wpAny_Constant_str ?_
  refine ⟨_, _, intKind_is _ _ _ _, hd.mapOf, ?_⟩
  obtain ⟨t0, e0⟩ := typeCh_at m _ _ _ _ _ _ _ _
  rw [e0]
  exact h _ _ _ kp₂
end
set_option maxHeartbeats 1000000 in
theorem lsigns {w : World} {A : Around} {E : Value → Shared → Prop} {s : Shared} {n : Int} {t : Tok} {Q : Value → Shared → Prop}
    (ok : AOk A) (hu : A.units ≤ 1000) (hdp : A.depth ≤ 350) (B : Bas w.params s.heap) (hn : 0 ≤ n) (hn2 : n < 2 ^ 40)
    (h : ∀ t h' tk, Kp s.heap h' → Q (.str (txt (sgL n 3)) t) { s with heap := h', toks := tk }) :
    wpAny (model prog w) A (call (.ref 91) [.int n t]) Q E s := by
  refine A_defE (hco := by rfl) (hgen := by rfl) (hk := by rfl) (hcell := by decide) [(N.n_mode, .int n t)] (by lia) (B.at 91 rfl (by decide)) (by exact rfl) B.lim (B.code (c := 90) (by rfl) (by decide) (by exact rfl) (by exact rfl)) (by exact rfl) (by kernel_rfl) (by show [N.n_mode].Nodup; decide) (by exact locs rfl) ?_
  rintro A2 h₁ L tk ⟨a1, a2, a3⟩ hL F1
  have ok2 : AOk A2 := ⟨a1.trans ok.handled, by lia, by lia⟩
  have h111 : 110 < h₁.objs.size := Heap.lt_size (F1.keep _ _ (B.at 110 rfl (by decide)))
  refine wpAny_execs_cons ?_
  with_reducible refine wpAny_Assign_Name ?_ ?hsw
  case hsw => rfl
  with_reducible refine tyGet (m := (n.fdiv 4096).fmod 16) h111 ?_ ?_ ?h1 ?h2
  case h1 => rfl
  case h2 => rfl
  · intro h' tk' Q' E' k hq
    exact wpAny_BinOp (wpAny_BinOp (ldF (hL := by rfl) (hk := by rfl) (hl := by rfl) (hd := by rfl) (F1.kp k) (by k_mem) (wpAny_Constant_int (floordiv_int (by decide) (wpAny_Constant_int (mod_int (by decide) (hq _ _))) (.inl (PyProof.noPylong_small (by lia)))))))
  intro t0 h₂ tk₂ k₂
  generalize hc0 : typeCh ((n.fdiv 4096).fmod 16) = c0
  refine stF (hL := by rfl) (hk := by rfl) (hl := by rfl) [(N.n_text, .str (one c0) t0), (N.n_mode, .int n t)] (F1.kp k₂) rfl fun h₃ F3 k₃ => ?_
  clear F1 k₂ k₃
  refine any_tok (s := s) fun tk₃ => ?_
  with_reducible refine wpAny_execs_cons (wpAny_For (wpAny_List_spliced ?_) ?h1)
  case h1 => exact fun _ => rfl
  show wpAny _ _ (spliced [(false, eval _ _), (false, eval _ _), (false, eval _ _)]) _ _ _
  refine spliced_cons (list2 fun t1 t2 tk4 => ?_)
  refine spliced_cons (list2 fun t3 t4 tk5 => ?_)
  refine spliced_cons (list2 fun t5 t6 tk6 => ?_)
  refine spliced_nil ⟨lns (n := 3) rfl (by lia), ?_⟩
  dsimp only
  generalize hH1 : h₃.push { cls := .type "list", data := .seq #[.int 2 t1, .str (one 115) t2] } = H1
  generalize hH2 : H1.push { cls := .type "list", data := .seq #[.int 1 t3, .str (one 115) t4] } = H2
  generalize hH3 : H2.push { cls := .type "list", data := .seq #[.int 0 t5, .str (one 116) t6] } = H3
  generalize hH4 : H3.push { cls := .type "list", data := .seq [Value.ref h₃.objs.size, .ref H1.objs.size, .ref H2.objs.size].toArray } = H4
  have kp0 : Kp h₃ H4 := fun b o e => by
    rw [← hH4, ← hH3, ← hH2, ← hH1]
    exact kp_push _ _ _ _ (kp_push _ _ _ _ (kp_push _ _ _ _ (kp_push _ _ _ _ e)))
  have z1 : H1.objs.size = h₃.objs.size + 1 := by rw [← hH1, size_push]
  have z2 : H2.objs.size = h₃.objs.size + 2 := by rw [← hH2, size_push, z1]
  have z3 : H3.objs.size = h₃.objs.size + 3 := by rw [← hH3, size_push, z2]
  have z4 : H4.objs.size = h₃.objs.size + 4 := by rw [← hH4, size_push, z3]
  have g0 : H4.IsList h₃.objs.size #[.int 2 t1, .str (one 115) t2] := ⟨_, by rw [← hH4, ← hH3, ← hH2]; exact kp_push _ _ _ _ (kp_push _ _ _ _ (kp_push _ _ _ _ (by rw [← hH1]; exact Heap.get?_push_size _ rfl))), rfl, _, rfl⟩
  have g1 : H4.IsList H1.objs.size #[.int 1 t3, .str (one 115) t4] := ⟨_, by rw [← hH4, ← hH3]; exact kp_push _ _ _ _ (kp_push _ _ _ _ (by rw [← hH2]; exact Heap.get?_push_size _ rfl)), rfl, _, rfl⟩
  have g2 : H4.IsList H2.objs.size #[.int 0 t5, .str (one 116) t6] := ⟨_, by rw [← hH4]; exact kp_push _ _ _ _ (by rw [← hH3]; exact Heap.get?_push_size _ rfl), rfl, _, rfl⟩
  have gl : H4.IsList H3.objs.size #[.ref h₃.objs.size, .ref H1.objs.size, .ref H2.objs.size] := ⟨_, by rw [← hH4]; exact Heap.get?_push_size _ rfl, rfl, _, rfl⟩
  have hLs : L < h₃.objs.size := F3.lt
  have F4 := F3.kp kp0
  have its : ∀ i < 3, ∃ a ta tb, (#[Value.ref h₃.objs.size, .ref H1.objs.size, .ref H2.objs.size] : Array Value)[i]? = some (.ref a) ∧ a < H4.objs.size ∧ a ≠ L ∧ H4.IsList a #[.int ((sgAt i).1 : Int) ta, .str (one (sgAt i).2.1) tb] := by
    intro i hi
    obtain rfl | rfl | rfl : i = 0 ∨ i = 1 ∨ i = 2 := by lia
    · exact ⟨_, t1, t2, rfl, by rw [z4]; exact Nat.lt_add_of_pos_right (by decide), Nat.ne_of_gt hLs, g0⟩
    · exact ⟨_, t3, t4, rfl, by rw [z4, z1]; exact Nat.add_lt_add_left (by decide) _, by rw [z1]; exact Nat.ne_of_gt (Nat.lt_of_lt_of_le hLs (Nat.le_add_right _ _)), g1⟩
    · exact ⟨_, t5, t6, rfl, by rw [z4, z2]; exact Nat.add_lt_add_left (by decide) _, by rw [z2]; exact Nat.ne_of_gt (Nat.lt_of_lt_of_le hLs (Nat.le_add_right _ _)), g2⟩
  have hLl : H3.objs.size ≠ L := by rw [z3]; exact Nat.ne_of_gt (Nat.lt_of_lt_of_le hLs (Nat.le_add_right _ _))
  have hlI : H3.objs.size < H4.objs.size := by rw [z3, z4]; exact Nat.lt_succ_self _
  generalize H3.objs.size = ls at gl hLl hlI ⊢
  generalize hv : (#[Value.ref h₃.objs.size, .ref H1.objs.size, .ref H2.objs.size] : Array Value) = vals at gl its
  have hvs : vals.size = 3 := by rw [← hv]; rfl
  clear hv g0 g1 g2 z1 z2 z3 z4 kp0 F3 hH1 hH2 hH3 hH4 hLs
  refine wpAny_pyIter_list gl ?_
  dsimp only
  have hLI : L < H4.objs.size := F4.lt
  have W := Walks.list (prog := prog) (w := w) (A := A2) ok2.handled H4.objs.size ls (Nat.ne_of_lt hlI) vals
  rw [hvs] at W
  refine forW W (J := fun i hh => ∃ u, Fm s.heap hh L [(N.n_text, .str (txt (sgL n i)) u), (N.n_mode, .int n t)] ∧ ∀ i < 3, ∃ a ta tb, vals[i]? = some (.ref a) ∧ a < H4.objs.size ∧ a ≠ L ∧ hh.IsList a #[.int ((sgAt i).1 : Int) ta, .str (one (sgAt i).2.1) tb])
    ⟨⟨_, Heap.get?_push_size _ rfl, rfl, rfl⟩, gl.push _⟩ ?_ ?_ ?_ ?_
  · refine ⟨t0, ?_, fun i hi => ?_⟩
    · rw [show txt (sgL n 0) = one c0 by rw [← hc0]; rfl]
      exact F4.kp (kp_push _ _)
    · obtain ⟨a, ta, tb, x1, x2, x3, x4⟩ := its i hi
      exact ⟨a, ta, tb, x1, x2, x3, x4.push _⟩
  · rintro i g g' ⟨t1, F, its⟩ k
    refine ⟨t1, F.off k (nm1 (Nat.ne_of_lt hLI)) ?_, fun i hi => ?_⟩
    · intro b hb
      rw [List.mem_singleton] at hb; subst hb
      exact F4.gone (by simp [Heap.get?])
    · obtain ⟨a, ta, tb, x1, x2, x3, x4⟩ := its i hi
      exact ⟨a, ta, tb, x1, x2, x3, x4.at fun o e => k a o (nm1 (Nat.ne_of_lt x2)) e⟩
  · rintro i v g tk' E' hi hP st ⟨t1, F, its⟩
    obtain ⟨a, ta, tb, x1, x2, x3, x4⟩ := its i hi
    obtain rfl : v = .ref a := by rw [x1] at hP; exact (Option.some.inj hP).symm
    refine wpAny_letOwnedTupleGo_listiter st.1 ?_
    have hsucc := sgL_succ n i hi
    have hlen := sgL_len n i (Nat.le_of_lt hi)
    obtain ⟨hk, hup⟩ := sgAt_k i hi
    generalize sgL n (i + 1) = lz at hsucc ⊢
    generalize sgL n i = l0 at F hsucc hlen
    generalize (sgAt i).1 = kk at x4 hsucc hk
    generalize (sgAt i).2.1 = lo at x4 hsucc hup
    generalize (sgAt i).2.2 = up at hsucc hup
    obtain ⟨p1, p2, p3, p4⟩ := pw8 kk hk
    rw [Int.toNat_natCast] at p1 p2 p3 p4
    refine asgL2 (hL := by rfl) (hk := by rfl) (hl := by rfl) (hl' := by rfl) [(⟨#[107]⟩, .int (kk : Int) ta), (N.n_text, .str (txt l0) t1), (N.n_mode, .int n t)] [(⟨#[109, 111, 114, 101]⟩, .str (one lo) tb), (⟨#[107]⟩, .int (kk : Int) ta), (N.n_text, .str (txt l0) t1), (N.n_mode, .int n t)] ok2.handled x4 F rfl rfl fun g₁ tk₁ F1 k₁ => absQ fun K hK => ?_
    have st1 := W.frame _ _ g₁ st (all2 (fun o q => k₁ _ o (nm1 (Nat.ne_of_lt hLI).symm) q) fun o q => k₁ _ o (nm1 hLl) q)
    have its1 : ∀ i < 3, ∃ a ta tb, vals[i]? = some (.ref a) ∧ a < H4.objs.size ∧ a ≠ L ∧ g₁.IsList a #[.int ((sgAt i).1 : Int) ta, .str (one (sgAt i).2.1) tb] := fun i hi => by
      obtain ⟨a, ta, tb, x1, x2, x3, x4⟩ := its i hi
      exact ⟨a, ta, tb, x1, x2, x3, x4.at fun o e => k₁ a o (nm1 x3) e⟩
    clear its st k₁ x4 F x1
    dsimp only
    refine any_tok (s := { s with heap := g₁ }) fun tk₁ => ?_
    -- three
    with_reducible refine wpAny_execs_cons (wpAny_Assign_Name (wpAny_BinOp (wpAny_BinOp ?_)) ?h1)
    case h1 => rfl
    refine ldF (hL := by rfl) (hk := by rfl) (hl := by rfl) (hd := by rfl) F1 (by k_mem) (wpAny_BinOp (wpAny_Constant_int (ldF (hL := by rfl) (hk := by rfl) (hl := by rfl) (hd := by rfl) F1 (by k_mem) (pow_int_small (by lia) (by lia) (by decide) ?_))))
    rw [Int.toNat_natCast]
    refine floordiv_int p1 (wpAny_Constant_int (mod_int (by decide) ?_)) (.inl (PyProof.noPylong_small p2))
    generalize hth : (n.fdiv (8 ^ kk)).fmod 8 = th
    refine stF (hL := by rfl) (hk := by rfl) (hl := by rfl) [(N.n_three, .int th _), (N.n_more, .str (one lo) tb), (N.n_k, .int (kk : Int) ta), (N.n_text, .str (txt l0) t1), (N.n_mode, .int n t)] F1 rfl fun g₂ F2 k₂ => ?_
    dsimp only
    refine any_tok (s := { s with heap := g₂ }) fun tk₂ => ?_
    -- last
    with_reducible refine wpAny_execs_cons (wpAny_Assign_Name ?_ ?h1)
    case h1 => rfl
    refine ifS (b := th.fmod 2 == 1) (cx := lo) (cy := up) ?_ ?_ ?_ fun t2 tk => ?_
    · intro Q' hq
      exact wpAny_isTrue_Compare1 (wpAny_BinOp (ldF (hL := by rfl) (hk := by rfl) (hl := by rfl) (hd := by rfl) F2 (by k_mem) (wpAny_Constant_int (mod_int (by decide) (wpAny_Constant_int (PyProof.Rows.eq_int (wpAny_truthy_bool (hq _))))))))
    · intro tk Q' hq
      exact ldF (hL := by rfl) (hk := by rfl) (hl := by rfl) (hd := by rfl) F2 (by k_mem) (hq _ _)
    · intro tk Q' hq
      with_reducible refine Call_method0 ?h1 ?h2 (?_)
      case h1 => rfl
      case h2 => rfl
      refine ldF (hL := by rfl) (hk := by rfl) (hl := by rfl) (hd := by rfl) F2 (by k_mem) (SB.upper (by rw [hup]; rfl) ?_)
      rw [hup]; exact hq _ _
    generalize hla : cond (th.fmod 2 == 1) lo up = la
    refine stF (hL := by rfl) (hk := by rfl) (hl := by rfl) [(N.n_last, .str (one la) t2), (N.n_three, .int th _), (N.n_more, .str (one lo) tb), (N.n_k, .int (kk : Int) ta), (N.n_text, .str (txt l0) t1), (N.n_mode, .int n t)] F2 rfl fun g₃ F3 k₃ => ?_
    dsimp only
    refine any_tok (s := { s with heap := g₃ }) fun tk₃ => ?_
    -- text, first
    with_reducible refine wpAny_execs_cons (wpAny_Assign_Name (wpAny_BinOp (wpAny_BinOp ?_)) ?h1)
    case h1 => rfl
    refine ldF (hL := by rfl) (hk := by rfl) (hl := by rfl) (hd := by rfl) F3 (by k_mem) (ifS (b := decide (3 < th)) (cx := 114) (cy := 45) ?_ (fun tk Q' hq => litS hq) (fun tk Q' hq => litS hq) fun t3 tk => addT (by lia) fun t4 tk => ?_)
    · intro Q' hq
      exact wpAny_isTrue_Compare1 (ldF (hL := by rfl) (hk := by rfl) (hl := by rfl) (hd := by rfl) F3 (by k_mem) (wpAny_Constant_int (PyProof.Rows.gt_int (wpAny_truthy_bool (hq _)))))
    refine ifS (b := (th.fdiv 2).fmod 2 == 1) (cx := 119) (cy := 45) ?_ (fun tk Q' hq => litS hq) (fun tk Q' hq => litS hq) fun t5 tk => addT (by simp; lia) fun t6 tk => ?_
    · intro Q' hq
      exact wpAny_isTrue_Compare1 (wpAny_BinOp (wpAny_BinOp (ldF (hL := by rfl) (hk := by rfl) (hl := by rfl) (hd := by rfl) F3 (by k_mem) (wpAny_Constant_int (floordiv_int (by decide) (wpAny_Constant_int (mod_int (by decide) (wpAny_Constant_int (PyProof.Rows.eq_int (wpAny_truthy_bool (hq _)))))) (.inl (PyProof.noPylong_small (by lia))))))))
    generalize hl1 : l0 ++ [cond (decide (3 < th)) 114 45] ++ [cond ((th.fdiv 2).fmod 2 == 1) 119 45] = l1
    refine stF (hL := by rfl) (hk := by rfl) (hl := by rfl) [(N.n_text, .str (txt l1) t6), (N.n_last, .str (one la) t2), (N.n_three, .int th _), (N.n_more, .str (one lo) tb), (N.n_k, .int (kk : Int) ta), (N.n_mode, .int n t)] F3 rfl fun g₄ F4 k₄ => ?_
    dsimp only
    refine any_tok (s := { s with heap := g₄ }) fun tk₄ => ?_
    have hl1n : l1.length ≤ 12 := by rw [← hl1]; simp; lia
    -- text, again
    with_reducible refine wpAny_execs_cons (wpAny_Assign_Name (wpAny_BinOp ?_) ?h1)
    case h1 => rfl
    refine ldF (hL := by rfl) (hk := by rfl) (hl := by rfl) (hd := by rfl) F4 (by k_mem) (ifS (b := ((n.fdiv 512).fdiv (2 ^ kk)).fmod 2 == 1) (cx := la) (cy := cond (th.fmod 2 == 1) 120 45) ?_ (fun tk Q' hq => ldF (hL := by rfl) (hk := by rfl) (hl := by rfl) (hd := by rfl) F4 (by k_mem) (hq _ _)) ?_ fun t7 tk => addT (by lia) fun t8 tk => ?_)
    · intro Q' hq
      refine wpAny_isTrue_Compare1 (wpAny_BinOp (wpAny_BinOp (wpAny_BinOp (ldF (hL := by rfl) (hk := by rfl) (hl := by rfl) (hd := by rfl) F4 (by k_mem) (wpAny_Constant_int (floordiv_int (by decide) (wpAny_BinOp (wpAny_Constant_int (ldF (hL := by rfl) (hk := by rfl) (hl := by rfl) (hd := by rfl) F4 (by k_mem) (pow_int_small (by lia) (by lia) (by decide) ?_)))) (.inl (PyProof.noPylong_small (by lia)))))))))
      rw [Int.toNat_natCast]
      exact floordiv_int p3 (wpAny_Constant_int (mod_int (by decide) (wpAny_Constant_int (PyProof.Rows.eq_int (wpAny_truthy_bool (hq _)))))) (.inl (PyProof.noPylong_small p4))
    · intro tk Q' hq
      refine ifS (b := th.fmod 2 == 1) (cx := 120) (cy := 45) ?_ (fun tk Q' hq => litS hq) (fun tk Q' hq => litS hq) hq
      intro Q' hq
      exact wpAny_isTrue_Compare1 (wpAny_BinOp (ldF (hL := by rfl) (hk := by rfl) (hl := by rfl) (hd := by rfl) F4 (by k_mem) (wpAny_Constant_int (mod_int (by decide) (wpAny_Constant_int (PyProof.Rows.eq_int (wpAny_truthy_bool (hq _))))))))
    have hlz : l1 ++ [cond (((n.fdiv 512).fdiv (2 ^ kk)).fmod 2 == 1) la (cond (th.fmod 2 == 1) 120 45)] = lz := by
      rw [hsucc, ← hl1, ← hla, ← hth]; simp [sgTurn]
    rw [hlz]
    refine stF (hL := by rfl) (hk := by rfl) (hl := by rfl) [(N.n_text, .str (txt lz) t8), (N.n_last, .str (one la) t2), (N.n_three, .int th _), (N.n_more, .str (one lo) tb), (N.n_k, .int (kk : Int) ta), (N.n_mode, .int n t)] F4 rfl fun g₅ F5 k₅ => ?_
    have off : Off [L] g₁ g₅ := fun b o hb q => Off.of_same k₅ b o hb (Off.of_same k₄ b o hb (Off.of_same k₃ b o hb (Off.of_same k₂ b o hb q)))
    refine wpAny_execs_nil <| hK _ _ ⟨g₅, _, rfl, W.frame _ _ g₅ st1 (all2 (fun o q => off _ o (nm1 (Nat.ne_of_lt hLI).symm) q) fun o q => off _ o (nm1 hLl) q), t8, F5.less (all2 (by k_mem) (by k_mem)), fun i hi => ?_⟩
    obtain ⟨a, ta, tb, x1, x2, x3, x4⟩ := its1 i hi
    exact ⟨a, ta, tb, x1, x2, x3, x4.at fun o e => off a o (nm1 x3) e⟩
  · rintro g tk' E' ⟨t1, F, its⟩
    refine wpAny_execs_nil (wpAny_execs_cons (wpAny_Return_some (ldF (hL := by rfl) (hk := by rfl) (hl := by rfl) (hd := by rfl) F (by k_mem) ?_)))
    exact h _ _ _ F.keep
end Mine
end
section
open PySem PySem.W PySem.W.X PySem.W.XRun PyProof.Rows PySem.Calls
set_option Elab.async false
set_option maxRecDepth 100000
namespace Mine
theorem ob_getattr : typeLookup (.type "object") "__getattribute__" = pure (some (.builtin "object.__getattribute__")) := by rw [typeLookup_type, builtinLookup_eq_fast]; kernel_rfl
theorem md_getl : typeLookup (.type "member_descriptor") "__get__" = pure (some (.builtin "member_descriptor.__get__")) := by rw [typeLookup_type, builtinLookup_eq_fast]; kernel_rfl
section

set_option maxHeartbeats 0 in
theorem gaM (prog : Program) (w : World) (s : Shared) (C Nn D x dx : Addr) (k : KIn) (t td tr : Tok) (hs hd : Int) (tdoc : Tok) (v : Value) (s0 s2 s3 : Option Value)
    (hC : s.heap.get? C = some ⟨.type "type", none, .cls { name := N.d_K, bases := [.type "object"], mro := [.ref C, .type "object"], ns := Nn, qualname := qK, hasDict := false, slotNames := [N.d_obj] }, #[s0, none, s2, s3, some (.builtin "object.__new__"), some (.bool false)]⟩)
    (hN : s.heap.get? Nn = some ⟨.type "dict", none, .dict (kEs4 k hs tr D hd tdoc) 3, #[]⟩)
    (hD : s.heap.get? D = some ⟨.type "member_descriptor", none, .fields #[.str N.d_obj td, .ref C, .builtin "proto.slot", .builtin "proto.slot#set", rawInt 0], #[]⟩)
    (hx : s.heap.get? x = some ⟨.ref C, some dx, .plain, #[some v]⟩)
    (Q : Value → Shared → Prop) (E : Value → Shared → Prop)
    (hQ : Ret Q s fun r h' => r = v ∧ h' = s.heap) :
    wpAny (model prog w) AM (runValue (.builtin "proto.getattr_hooked" ⟨[.ref x, .str N.d_obj t], []⟩)) Q E s := by
  have m0 := Mem.start s.heap
  have hX := ret0 hQ ⟨rfl, rfl⟩
  x_run
end
set_option maxHeartbeats 4000000 in
theorem getObj {prog : Program} {w : World} {A : Around} (ok : AOk A) {E : Value → Shared → Prop} {s : Shared} {C Nn D x dx : Addr} {k : KIn} {td tr : Tok} {hs hd : Int} {tdoc : Tok} {bw : Array UInt8} {tb : Tok} {s0 s2 s3 : Option Value} {Q : Value → Shared → Prop}
    (hC : s.heap.get? C = some (kCls C Nn s0 s2 s3)) (hN : s.heap.get? Nn = some ⟨.type "dict", none, .dict (kEs4 k hs tr D hd tdoc) 3, #[]⟩) (hD : s.heap.get? D = some (memO C td))
    (hx : s.heap.get? x = some (iO C dx (.bytes bw tb)))
    (h : ∀ tk, Q (.bytes bw tb) { s with toks := tk }) :
    wpAny (model prog w) A (getAttr (.ref x) N.d_obj true) Q E s := by
  have e1 := ob_getattr
  have e2 := ob_obj
  have e3 := md_setl
  have e4 := md_getl
  unfold getAttr
  with_reducible refine wpAny_bind ?_
  with_reducible refine wpAny_mkText ?_
  wp_delta
  with_reducible refine wpAny_holding ?_
  with_reducible refine wpAny_bind ?_
  wp_delta
  with_reducible refine wpAny_bind ?_
  ((with_reducible apply wpAny_loadPart'); focus (heap_get; done))
  with_reducible refine wpAny_pure ?_
  with_reducible refine wpAny_bind ?_
  with_reducible refine tlook (cd := kCd C Nn) (r := none) hC rfl rfl hN (by kernel_rfl) ob_getattr ?_
  ((with_reducible apply wpAny_ite_true); focus (rfl; done))
  wp_delta
  with_reducible refine wpAny_bind ?_
  refine wpAny_onRaise (any_weak ok (gaM prog w ⟨s.heap, s.gens, s.drawn, s.toks + 1, s.os⟩ C Nn D x dx k s.toks td tr hs hd tdoc (.bytes bw tb) s0 s2 s3 hC hN hD hx _ _ ?_))
  rintro v1 h1 tk1 ⟨rfl, rfl⟩
  exact wpAny_pure (h _)
end Mine
end
section
open PySem PySem.W PySem.W.X PySem.W.XRun PyProof.Rows PySem.Calls
set_option Elab.async false
set_option maxRecDepth 100000
namespace Mine
section
variable {prog : Program} {w : World} {A : Around} {E : Value → Shared → Prop} {s : Shared} {b : Array UInt8} {t : Tok}
theorem wpAny_alive {M : Model} {a : Addr} {o : Obj} {Q : Option Obj → Shared → Prop} (ho : s.heap.get? a = some o) (h : Q (some o) s) : wpAny M A (loadIfAlive a) Q E s := fun Γ p hΓ => by
  show Q (s.heap.get? a) s
  rw [ho]; exact h
theorem nextB_item {it : Addr} {i : Nat} {c : UInt8} {Q : Value → Shared → Prop} (hit : KBw.IsBytesIter s.heap it b t i) (hx : b[i]? = some c)
    (hQ : ∀ h', KBw.IsBytesIter h' it b t (i + 1) → Heap.SameBut it s.heap h' → Q (.int (c.toNat : Int) s.toks) { s with heap := h', toks := s.toks + 1 }) : wpAny (model prog w) A (Builtin.SmallTypes.nextOf (.ref it)) Q E s := by
  obtain ⟨o, ho, hc, hd⟩ := id hit
  unfold Builtin.SmallTypes.nextOf
  refine wpAny_bind (wpAny_callSpecial?_slot (name := PySem.Str.ofString "__next__") (KBw.iter_typeIs hit) KBw.slot_next
    (wpAny_call_entry KBw.slot_next (KBw.iter_typeIs hit) KBw.entry_next ?_ (KBw.args_next _)))
  show wpAny _ _ (field (.ref it) 0 >>= _) _ _ s
  refine wpAny_bind (wpAny_field ho hd (x := .bytes b t) rfl ?_)
  show wpAny _ _ (if (Value.bytes b t == Value.none) = true then _ else _) _ _ s
  rw [if_neg (show ¬ ((Value.bytes b t == Value.none) = true) from Bool.false_ne_true)]
  show wpAny _ _ (field (.ref it) 1 >>= _) _ _ s
  refine wpAny_bind (wpAny_field ho hd (x := .int i 0) rfl ?_)
  refine wpAny_bind (wpAny_of_eq (a := b) rfl ?_)
  simp only [Int.toNat_natCast, hx]
  refine wpAny_bind (wpAny_setField ho hd (by simp) (wpAny_bind (wpAny_mkInt (wpAny_pure ⟨_, rfl, wpAny_pure (hQ _ ?_ (Heap.SameBut.update ..))⟩))))
  exact ⟨_, Heap.get?_update_self _ ho (Obj.isFreed_of_fields (Obj.data_mapFields hd _)), (Obj.cls_mapFields ..).trans hc, by
    rw [Obj.data_mapFields hd]; simp [rawInt]⟩
theorem nextB_end {it : Addr} {i : Nat} {Q : Value → Shared → Prop} (hh : A.handled = none) (hit : KBw.IsBytesIter s.heap it b t i) (hx : b[i]? = none)
    (hE : ∀ h' e, Heap.ExtBut it s.heap h' → (∃ o, h'.get? e = some o ∧ o.cls = .type "StopIteration") → E (.ref e) { s with heap := h' }) : wpAny (model prog w) A (Builtin.SmallTypes.nextOf (.ref it)) Q E s := by
  obtain ⟨o, ho, hc, hd⟩ := id hit
  unfold Builtin.SmallTypes.nextOf
  refine wpAny_bind (wpAny_callSpecial?_slot (name := PySem.Str.ofString "__next__") (KBw.iter_typeIs hit) KBw.slot_next
    (wpAny_call_entry KBw.slot_next (KBw.iter_typeIs hit) KBw.entry_next ?_ (KBw.args_next _)))
  show wpAny _ _ (field (.ref it) 0 >>= _) _ _ s
  refine wpAny_bind (wpAny_field ho hd (x := .bytes b t) rfl ?_)
  show wpAny _ _ (if (Value.bytes b t == Value.none) = true then _ else _) _ _ s
  rw [if_neg (show ¬ ((Value.bytes b t == Value.none) = true) from Bool.false_ne_true)]
  show wpAny _ _ (field (.ref it) 1 >>= _) _ _ s
  refine wpAny_bind (wpAny_field ho hd (x := .int i 0) rfl ?_)
  refine wpAny_bind (wpAny_of_eq (a := b) rfl ?_)
  simp only [Int.toNat_natCast, hx]
  refine wpAny_bind (wpAny_rule (wpAny_bind (wpAny_setField ho hd (by simp) ?_)))
  show wpAny _ _ (newExc (.type "StopIteration") [] >>= _) _ _ _
  refine wpAny_bind ?_
  simp only [newExc, newTuple]
  refine wpAny_bind (wpAny_newObj_type ?_ (by size_fits))
  refine wpAny_bind (m := firstArgMember _ _) (wpAny_of_eq (a := Value.none) (by first | rfl | (simp only [firstArgMember]; rfl)) ?_)
  refine wpAny_newObj_type ?_ (by size_fits)
  simp only [raiseNew]
  refine wpAny_bind (wpAny_handled ?_)
  rw [show A.in1.handled = none from hh]
  refine wpAny_bind (wpAny_pure (wpAny_throw ?_))
  exact hE _ _ (((Heap.SameBut.update ..).extBut.push _).push _) ⟨_, Heap.get?_push_size _ rfl, rfl⟩
end
noncomputable abbrev IsZ (h : Heap) (z TI TO : Addr) (f0 : Value) (f1 : Bool) : Prop :=
  h.get? z = some { cls := .type "zip", dict := none, data := .fields #[f0, .bool f1, .bool false, .ref TI, .ref TO], slots := #[] }
structure Z5 (z TI TO i1 i2 : Addr) : Prop where
  TIz : TI ≠ z
  TOz : TO ≠ z
  i1z : i1 ≠ z
  i2z : i2 ≠ z
  TITO : TI ≠ TO
  TIi1 : TI ≠ i1
  TIi2 : TI ≠ i2
  TOi1 : TO ≠ i1
  TOi2 : TO ≠ i2
  i12 : i1 ≠ i2
end Mine
end
section
open PySem PySem.W PySem.W.X PySem.W.XRun PyProof.Rows PySem.Calls
set_option Elab.async false
set_option maxRecDepth 100000
namespace Mine
theorem IsBI.same {h h' : Heap} {a it : Addr} {b : Array UInt8} {t : Tok} {i : Nat} (x : KBw.IsBytesIter h it b t i) (k : Heap.SameBut a h h') (hn : it ≠ a) : KBw.IsBytesIter h' it b t i :=
  let ⟨o, e, r⟩ := x; ⟨o, (k.2 _ hn).trans e, r⟩
theorem IsBI.push {h : Heap} {it : Addr} {b : Array UInt8} {t : Tok} {i : Nat} (x : KBw.IsBytesIter h it b t i) (o : Obj) : KBw.IsBytesIter (h.push o) it b t i :=
  let ⟨o, e, r⟩ := x; ⟨o, Heap.get?_push_of_some _ e, r⟩
section
variable {prog : Program} {w : World} {A : Around} {E : Value → Shared → Prop} {s : Shared} {b1 b2 : Array UInt8} {t1 t2 : Tok} {z TI TO i1 i2 : Addr} {k : Nat} {c1 c2 : UInt8}
theorem zB_first {a b : Value} {Q : Value → Shared → Prop} (D : Z5 z TI TO i1 i2) (hz : IsZ s.heap z TI TO .none false) (hTI : IsPair s.heap TI (.ref i1) (.ref i2)) (hTO : IsPair s.heap TO a b)
    (h1 : KBw.IsBytesIter s.heap i1 b1 t1 k) (h2 : KBw.IsBytesIter s.heap i2 b2 t2 k) (hx : b1[k]? = some c1) (hy : b2[k]? = some c2)
    (hQ : ∀ h' u1 u2 tk, IsZ h' z TI TO (rawInt s.heap.objs.size) false → IsPair h' TO (.int c1.toNat u1) (.int c2.toNat u2) → KBw.IsBytesIter h' i1 b1 t1 (k + 1) → KBw.IsBytesIter h' i2 b2 t2 (k + 1) → IsPair h' s.heap.objs.size (.int c1.toNat u1) (.int c2.toNat u2) →
      (∀ c o, c ≠ z → c ≠ TO → c ≠ i1 → c ≠ i2 → s.heap.get? c = some o → h'.get? c = some o) → Q (.ref s.heap.objs.size) { s with heap := h', toks := tk }) :
    wpAny (model prog w) A (Builtin.«zip.__next__» ⟨[.ref z], []⟩) (fun fin s' => ∃ v, fin = .done (.ret v) ∧ Q v s') E s := by
  show wpAny _ _ (field (.ref z) 2 >>= _) _ _ _
  refine wpAny_bind (wpAny_field hz rfl (x := .bool false) rfl ?_)
  show wpAny _ _ (field (.ref z) 3 >>= _) _ _ _
  refine wpAny_bind (wpAny_field hz rfl (x := .ref TI) rfl ?_)
  refine wpAny_bind (wpAny_seqItems hTI rfl ?_)
  show wpAny _ _ (Builtin.SmallTypes.ownedTupleIsFree (.ref z) >>= _) _ _ _
  refine wpAny_bind ?_
  unfold Builtin.SmallTypes.ownedTupleIsFree
  refine wpAny_bind (wpAny_field hz rfl (x := .none) rfl (wpAny_pure ?_))
  simp only [if_true]
  refine wpAny_bind (wpAny_rule ?_)
  refine wpAny_bind (wpAny_field hz rfl (x := .ref TO) rfl ?_)
  refine wpAny_bind (wpAny_setField_rec hz (by simp) fun h₁ hz₁ hs₁ => ?_)
  replace hz₁ : IsZ h₁ z TI TO .ellipsis false := hz₁
  refine wpAny_bind ?_
  simp only [List.zipIdx_cons, List.zipIdx_nil, List.forIn_cons, List.forIn_nil]
  refine wpAny_bind (wpAny_bind (wpAny_onRaise ?_))
  show wpAny _ _ (Builtin.SmallTypes.nextOf (.ref i1) >>= _) _ _ _
  refine wpAny_bind (nextB_item (IsBI.same h1 hs₁ D.i1z) hx fun h₂ h1₂ hs₂ => wpAny_pure ?_)
  have hTO₂ : IsPair h₂ TO a b := (hs₂.2 _ D.TOi1).trans ((hs₁.2 _ D.TOz).trans hTO)
  refine wpAny_bind (wpAny_seqItems hTO₂ rfl ?_)
  refine wpAny_bind (wpAny_updateSeq_pair hTO₂ fun h₃ hTO₃ hs₃ => ?_)
  replace hTO₃ : IsPair h₃ TO (.int c1.toNat _) b := hTO₃
  refine wpAny_bind (wpAny_letGo (wpAny_pure ?_))
  refine wpAny_bind (wpAny_bind (wpAny_onRaise ?_))
  show wpAny _ _ (Builtin.SmallTypes.nextOf (.ref i2) >>= _) _ _ _
  refine wpAny_bind (nextB_item (IsBI.same (IsBI.same (IsBI.same h2 hs₁ D.i2z) hs₂ D.i12.symm) hs₃ D.TOi2.symm) hy fun h₄ h2₄ hs₄ => wpAny_pure ?_)
  have hTO₄ := (hs₄.2 _ D.TOi2).trans hTO₃
  refine wpAny_bind (wpAny_seqItems hTO₄ rfl ?_)
  refine wpAny_bind (wpAny_updateSeq_pair hTO₄ fun h₅ hTO₅ hs₅ => ?_)
  replace hTO₅ : IsPair h₅ TO (.int c1.toNat s.toks) (.int c2.toNat (s.toks + 1)) := hTO₅
  refine wpAny_bind (wpAny_letGo (wpAny_pure (wpAny_pure ?_)))
  refine wpAny_bind (wpAny_seqItems hTO₅ rfl ?_)
  refine wpAny_bind (wpAny_newTuple ?_)
  have hsz : h₅.objs.size = s.heap.objs.size := by rw [hs₅.1, hs₄.1, hs₃.1, hs₂.1, hs₁.1]
  have hz₅ : IsZ h₅ z TI TO .ellipsis false := (hs₅.2 _ D.TOz.symm).trans ((hs₄.2 _ D.i2z.symm).trans ((hs₃.2 _ D.TOz.symm).trans ((hs₂.2 _ D.i1z.symm).trans hz₁)))
  have hk₅ : ∀ c o, c ≠ z → c ≠ TO → c ≠ i1 → c ≠ i2 → s.heap.get? c = some o → h₅.get? c = some o := fun c o x1 x2 x3 x4 e =>
    (hs₅.2 _ x2).trans ((hs₄.2 _ x4).trans ((hs₃.2 _ x2).trans ((hs₂.2 _ x3).trans ((hs₁.2 _ x1).trans e))))
  have h1₅ : KBw.IsBytesIter h₅ i1 b1 t1 (k + 1) := IsBI.same (IsBI.same (IsBI.same h1₂ hs₃ D.TOi1.symm) hs₄ D.i12) hs₅ D.TOi1.symm
  have h2₅ : KBw.IsBytesIter h₅ i2 b2 t2 (k + 1) := IsBI.same h2₄ hs₅ D.TOi2.symm
  have hzlt : z < h₅.objs.size := Heap.lt_size hz₅
  show wpAny _ _ (Builtin.SmallTypes.ownedTupleHandOut (.ref z) (.ref h₅.objs.size) >>= _) _ _ _
  refine wpAny_bind ?_
  unfold Builtin.SmallTypes.ownedTupleHandOut
  refine wpAny_bind (wpAny_setField_rec (Heap.get?_push_of_some _ hz₅) (by simp) fun h₇ hz₇ hs₇ => ?_)
  replace hz₇ : IsZ h₇ z TI TO (rawInt h₅.objs.size) false := hz₇
  refine wpAny_setField_rec hz₇ (by simp) fun h₈ hz₈ hs₈ => ?_
  replace hz₈ : IsZ h₈ z TI TO (rawInt h₅.objs.size) false := hz₈
  have up : ∀ c o, c ≠ z → h₅.get? c = some o → h₈.get? c = some o := fun c o x1 e => (hs₈.2 _ x1).trans ((hs₇.2 _ x1).trans (Heap.get?_push_of_some _ e))
  have hT₈ := (hs₈.2 _ (Nat.ne_of_gt hzlt)).trans ((hs₇.2 _ (Nat.ne_of_gt hzlt)).trans (Heap.get?_push_size _ rfl))
  rw [hsz] at hz₈ hT₈
  refine wpAny_pure ⟨_, rfl, ?_⟩
  show Q (.ref h₅.objs.size) _
  rw [hsz]
  exact hQ h₈ _ _ _ hz₈ (up _ _ D.TOz hTO₅) (let ⟨o, e, r⟩ := h1₅; ⟨o, up _ o D.i1z e, r⟩) (let ⟨o, e, r⟩ := h2₅; ⟨o, up _ o D.i2z e, r⟩) hT₈ fun c o x1 x2 x3 x4 e => up c o x1 (hk₅ c o x1 x2 x3 x4 e)
theorem zB_next {T0 : Addr} {o0 : Obj} {f1 : Bool} {Q : Value → Shared → Prop} (D : Z5 z TI TO i1 i2) (hz : IsZ s.heap z TI TO (rawInt T0) f1) (hT0 : s.heap.get? T0 = some o0) (hTI : IsPair s.heap TI (.ref i1) (.ref i2))
    (h1 : KBw.IsBytesIter s.heap i1 b1 t1 k) (h2 : KBw.IsBytesIter s.heap i2 b2 t2 k) (hx : b1[k]? = some c1) (hy : b2[k]? = some c2)
    (hQ : ∀ h' u1 u2 tk, IsZ h' z TI TO (rawInt T0) true → KBw.IsBytesIter h' i1 b1 t1 (k + 1) → KBw.IsBytesIter h' i2 b2 t2 (k + 1) → IsPair h' s.heap.objs.size (.int c1.toNat u1) (.int c2.toNat u2) →
      (∀ c o, c ≠ z → c ≠ i1 → c ≠ i2 → s.heap.get? c = some o → h'.get? c = some o) → Q (.ref s.heap.objs.size) { s with heap := h', toks := tk }) :
    wpAny (model prog w) A (Builtin.«zip.__next__» ⟨[.ref z], []⟩) (fun fin s' => ∃ v, fin = .done (.ret v) ∧ Q v s') E s := by
  show wpAny _ _ (field (.ref z) 2 >>= _) _ _ _
  refine wpAny_bind (wpAny_field hz rfl (x := .bool false) rfl ?_)
  show wpAny _ _ (field (.ref z) 3 >>= _) _ _ _
  refine wpAny_bind (wpAny_field hz rfl (x := .ref TI) rfl ?_)
  refine wpAny_bind (wpAny_seqItems hTI rfl ?_)
  show wpAny _ _ (Builtin.SmallTypes.ownedTupleIsFree (.ref z) >>= _) _ _ _
  refine wpAny_bind (wpAny_mono (Q := fun a s' => a = false ∧ ∃ h₁, s' = { s with heap := h₁ } ∧ IsZ h₁ z TI TO (rawInt T0) true ∧ Heap.SameBut z s.heap h₁) ?_ ?_ fun _ _ e => e)
  · unfold Builtin.SmallTypes.ownedTupleIsFree
    refine wpAny_bind (wpAny_field hz rfl (x := rawInt T0) rfl ?_)
    refine wpAny_bind (wpAny_alive (a := ((T0 : Nat) : Int).toNat) (by rw [Int.toNat_natCast]; exact hT0) ?_)
    refine wpAny_ite_false (by rfl) ?_
    refine wpAny_bind (wpAny_field hz rfl (x := .bool f1) rfl ?_)
    cases f1 with
    | false =>
      refine wpAny_ite_true (by rfl) ?_
      refine wpAny_bind (wpAny_setField_rec hz (by simp) fun h₁ hz₁ hs₁ => wpAny_pure ⟨rfl, h₁, rfl, hz₁, hs₁⟩)
    | true =>
      refine wpAny_ite_false (by rfl) ?_
      exact wpAny_pure ⟨rfl, s.heap, rfl, hz, ⟨rfl, fun _ _ => rfl⟩⟩
  rintro _ _ ⟨rfl, h₁, rfl, hz₁, hs₁⟩
  refine wpAny_ite_false (by rfl) ?_
  refine wpAny_bind ?_
  rw [← Array.forIn_toList]
  simp only [List.forIn_cons, List.forIn_nil]
  refine wpAny_bind (wpAny_bind (wpAny_holding ?_))
  show wpAny _ _ (Builtin.SmallTypes.nextOf (.ref i1) >>= _) _ _ _
  refine wpAny_bind (nextB_item (IsBI.same h1 hs₁ D.i1z) hx fun h₂ h1₂ hs₂ => wpAny_pure (wpAny_pure ?_))
  refine wpAny_bind (wpAny_bind (wpAny_holding ?_))
  show wpAny _ _ (Builtin.SmallTypes.nextOf (.ref i2) >>= _) _ _ _
  refine wpAny_bind (nextB_item (IsBI.same (IsBI.same h2 hs₁ D.i2z) hs₂ D.i12.symm) hy fun h₃ h2₃ hs₃ => wpAny_pure (wpAny_pure (wpAny_pure ?_)))
  refine wpAny_bind (wpAny_newTuple (items := [.int c1.toNat s.toks, .int c2.toNat (s.toks + 1)]) (wpAny_pure ⟨_, rfl, ?_⟩))
  have hsz : h₃.objs.size = s.heap.objs.size := by rw [hs₃.1, hs₂.1, hs₁.1]
  have hk : ∀ c o, c ≠ z → c ≠ i1 → c ≠ i2 → s.heap.get? c = some o → h₃.get? c = some o := fun c o x1 x2 x3 e => (hs₃.2 _ x3).trans ((hs₂.2 _ x2).trans ((hs₁.2 _ x1).trans e))
  show Q (.ref h₃.objs.size) _
  have hp : IsPair (h₃.push { cls := .type "tuple", data := .seq #[.int c1.toNat s.toks, .int c2.toNat (s.toks + 1)] }) h₃.objs.size (.int c1.toNat s.toks) (.int c2.toNat (s.toks + 1)) := Heap.get?_push_size _ rfl
  rw [hsz] at hp ⊢
  exact hQ _ _ _ _ (Heap.get?_push_of_some _ ((hs₃.2 _ D.i2z.symm).trans ((hs₂.2 _ D.i1z.symm).trans hz₁))) (IsBI.push (IsBI.same h1₂ hs₃ D.i12) _) (IsBI.push h2₃ _) hp fun c o x1 x2 x3 e => Heap.get?_push_of_some _ (hk c o x1 x2 x3 e)
theorem zB_end {T0 : Addr} {o0 : Obj} {f1 : Bool} {Q : PySem.Fin → Shared → Prop} (hh : A.handled = none) (D : Z5 z TI TO i1 i2) (hz : IsZ s.heap z TI TO (rawInt T0) f1) (hT0 : s.heap.get? T0 = some o0) (hTI : IsPair s.heap TI (.ref i1) (.ref i2))
    (h1 : KBw.IsBytesIter s.heap i1 b1 t1 k) (hx : b1[k]? = none)
    (hE : ∀ h' e, (∀ c o, c ≠ z → c ≠ i1 → c ≠ i2 → s.heap.get? c = some o → h'.get? c = some o) → (∃ o, h'.get? e = some o ∧ o.cls = .type "StopIteration") → E (.ref e) { s with heap := h' }) :
    wpAny (model prog w) A (Builtin.«zip.__next__» ⟨[.ref z], []⟩) Q E s := by
  show wpAny _ _ (field (.ref z) 2 >>= _) _ _ _
  refine wpAny_bind (wpAny_field hz rfl (x := .bool false) rfl ?_)
  show wpAny _ _ (field (.ref z) 3 >>= _) _ _ _
  refine wpAny_bind (wpAny_field hz rfl (x := .ref TI) rfl ?_)
  refine wpAny_bind (wpAny_seqItems hTI rfl ?_)
  show wpAny _ _ (Builtin.SmallTypes.ownedTupleIsFree (.ref z) >>= _) _ _ _
  refine wpAny_bind (wpAny_mono (Q := fun a s' => a = false ∧ ∃ h₁, s' = { s with heap := h₁ } ∧ IsZ h₁ z TI TO (rawInt T0) true ∧ Heap.SameBut z s.heap h₁) ?_ ?_ fun _ _ e => e)
  · unfold Builtin.SmallTypes.ownedTupleIsFree
    refine wpAny_bind (wpAny_field hz rfl (x := rawInt T0) rfl ?_)
    refine wpAny_bind (wpAny_alive (a := ((T0 : Nat) : Int).toNat) (by rw [Int.toNat_natCast]; exact hT0) ?_)
    refine wpAny_ite_false (by rfl) ?_
    refine wpAny_bind (wpAny_field hz rfl (x := .bool f1) rfl ?_)
    cases f1 with
    | false =>
      refine wpAny_ite_true (by rfl) ?_
      refine wpAny_bind (wpAny_setField_rec hz (by simp) fun h₁ hz₁ hs₁ => wpAny_pure ⟨rfl, h₁, rfl, hz₁, hs₁⟩)
    | true =>
      refine wpAny_ite_false (by rfl) ?_
      exact wpAny_pure ⟨rfl, s.heap, rfl, hz, ⟨rfl, fun _ _ => rfl⟩⟩
  rintro _ _ ⟨rfl, h₁, rfl, hz₁, hs₁⟩
  refine wpAny_ite_false (by rfl) ?_
  refine wpAny_bind ?_
  rw [← Array.forIn_toList]
  simp only [List.forIn_cons, List.forIn_nil]
  refine wpAny_bind (wpAny_bind (wpAny_holding ?_))
  show wpAny _ _ (Builtin.SmallTypes.nextOf (.ref i1) >>= _) _ _ _
  refine wpAny_bind (nextB_end hh (IsBI.same h1 hs₁ D.i1z) hx fun h₂ e he ho => ?_)
  exact hE h₂ e (fun c o x1 x2 x3 g => he c o x2 ((hs₁.2 _ x1).trans g)) ho
end
end Mine
end
section
open PySem PySem.W PySem.W.X PySem.W.XRun PyProof.Rows PySem.Calls
set_option Elab.async false
set_option maxRecDepth 100000
namespace Mine
noncomputable abbrev bH1 (h : Heap) (b1 : Array UInt8) (t1 : Tok) : Heap := h.push { cls := .type "bytes_iterator", data := .fields #[.bytes b1 t1, .int 0 0] }
noncomputable abbrev bH2 (h : Heap) (b1 b2 : Array UInt8) (t1 t2 : Tok) : Heap := (bH1 h b1 t1).push { cls := .type "bytes_iterator", data := .fields #[.bytes b2 t2, .int 0 0] }
noncomputable abbrev bH3 (h : Heap) (b1 b2 : Array UInt8) (t1 t2 : Tok) : Heap := (bH2 h b1 b2 t1 t2).push { cls := .type "tuple", data := .seq #[.ref h.objs.size, .ref (bH1 h b1 t1).objs.size] }
noncomputable abbrev bH4 (h : Heap) (b1 b2 : Array UInt8) (t1 t2 : Tok) : Heap := (bH3 h b1 b2 t1 t2).push { cls := .type "tuple", data := .seq #[.none, .none] }
noncomputable abbrev bH5 (h : Heap) (b1 b2 : Array UInt8) (t1 t2 : Tok) : Heap := (bH4 h b1 b2 t1 t2).push { cls := .type "zip", data := .fields #[.none, .bool false, .bool false, .ref (bH2 h b1 b2 t1 t2).objs.size, .ref (bH3 h b1 b2 t1 t2).objs.size] }
set_option maxHeartbeats 2000000 in
theorem meets_zipB (b1 b2 : Array UInt8) (t1 t2 : Tok) :
    Meets (Builtin.«zip.__new__» ⟨[.type "zip", .bytes b1 t1, .bytes b2 t2], []⟩) (fun _ R s =>
      R (.ok (.ret (.ref (bH4 s.heap b1 b2 t1 t2).objs.size))) { s with heap := bH5 s.heap b1 b2 t1 t2 }) :=
  .of_wp fun prog w A R s h => by
    obtain ⟨hp, g, d, tk, os⟩ := s
    have hsub := sub_zip
    unfold Builtin.«zip.__new__»
    with_reducible refine wpAny_bind ?_
    wp_delta
    with_reducible refine wpAny_bind ?_
    wp_delta
    with_reducible refine wpAny_pure ?_
    ((with_reducible apply wpAny_ite_false); focus (rfl; done))
    with_reducible refine wpAny_bind ?_
    with_reducible refine wpAny_of_eq (by assumption) ?_
    ((with_reducible apply wpAny_ite_false); focus (rfl; done))
    with_reducible refine wpAny_pure ?_
    ((with_reducible apply wpAny_ite_false); focus (rfl; done))
    with_reducible refine wpAny_bind ?_
    wp_delta
    with_reducible refine wpAny_bind ?_
    iterate 4 (wp_delta)
    iterate 2 (with_reducible refine wpAny_bind ?_)
    with_reducible refine wpAny_holding ?_
    with_reducible refine KBw.pyIter_bytes ?_
    with_reducible refine wpAny_pure ?_
    iterate 2 (wp_delta)
    iterate 2 (with_reducible refine wpAny_bind ?_)
    with_reducible refine wpAny_holding ?_
    with_reducible refine KBw.pyIter_bytes ?_
    with_reducible refine wpAny_pure ?_
    iterate 2 (wp_delta)
    iterate 2 (with_reducible refine wpAny_pure ?_)
    with_reducible refine wpAny_bind ?_
    iterate 2 (wp_delta)
    ((with_reducible apply wpAny_ite_false); focus (rfl; done))
    iterate 2 (wp_delta)
    with_reducible refine wpAny_bind ?_
    with_reducible refine wpAny_alloc' ?_
    with_reducible refine wpAny_pure ?_
    with_reducible refine wpAny_bind ?_
    iterate 2 (wp_delta)
    ((with_reducible apply wpAny_ite_false); focus (rfl; done))
    iterate 2 (wp_delta)
    with_reducible refine wpAny_bind ?_
    with_reducible refine wpAny_alloc' ?_
    with_reducible refine wpAny_pure ?_
    with_reducible refine wpAny_bind ?_
    iterate 2 (wp_delta)
    ((with_reducible apply wpAny_ite_false); focus (rfl; done))
    iterate 2 (wp_delta)
    with_reducible refine wpAny_bind ?_
    with_reducible refine wpAny_alloc' ?_
    with_reducible refine wpAny_pure ?_
    wp_delta
    with_reducible refine wpAny_pure ?_

    exact ⟨_, rfl, h⟩
section
variable {prog : Program} {w : World} {A : Around} {E : Value → Shared → Prop} {s : Shared} {b1 b2 : Array UInt8} {t1 t2 : Tok}
theorem call_zipB {Q : Value → Shared → Prop}
    (h : ∀ h' z TI TO i1 i2, Z5 z TI TO i1 i2 → IsZ h' z TI TO .none false → IsPair h' TI (.ref i1) (.ref i2) → IsPair h' TO .none .none → KBw.IsBytesIter h' i1 b1 t1 0 → KBw.IsBytesIter h' i2 b2 t2 0 →
      (∀ b ∈ [z, TI, TO, i1, i2], s.heap.objs.size ≤ b) → Kp s.heap h' → Q (.ref z) { s with heap := h' }) :
    wpAny (model prog w) A (call (.type "zip") [.bytes b1 t1, .bytes b2 t2]) Q E s := by
  refine callType_new F.called_zip (by decide) (F.typeCall_zip_2 _ _) (F.newCall_zip_2 _ _) (fun obj => F.args_object_init_3 obj _ _) F.entry_zip_new (meets_zipB b1 b2 t1 t2) ?_
  have z1 : (bH1 s.heap b1 t1).objs.size = s.heap.objs.size + 1 := Heap.size_push ..
  have z2 : (bH2 s.heap b1 b2 t1 t2).objs.size = s.heap.objs.size + 2 := by rw [Heap.size_push, z1]
  have z3 : (bH3 s.heap b1 b2 t1 t2).objs.size = s.heap.objs.size + 3 := by rw [Heap.size_push, z2]
  have z4 : (bH4 s.heap b1 b2 t1 t2).objs.size = s.heap.objs.size + 4 := by rw [Heap.size_push, z3]
  have g5 : (bH5 s.heap b1 b2 t1 t2).get? (bH4 s.heap b1 b2 t1 t2).objs.size = some _ := Heap.get?_push_size _ rfl
  have g4 : (bH5 s.heap b1 b2 t1 t2).get? (bH3 s.heap b1 b2 t1 t2).objs.size = some _ := Heap.get?_push_of_some _ (Heap.get?_push_size _ rfl)
  have g3 : (bH5 s.heap b1 b2 t1 t2).get? (bH2 s.heap b1 b2 t1 t2).objs.size = some _ := Heap.get?_push_of_some _ (Heap.get?_push_of_some _ (Heap.get?_push_size _ rfl))
  have g2 : (bH5 s.heap b1 b2 t1 t2).get? (bH1 s.heap b1 t1).objs.size = some _ := Heap.get?_push_of_some _ (Heap.get?_push_of_some _ (Heap.get?_push_of_some _ (Heap.get?_push_size _ rfl)))
  have g1 : (bH5 s.heap b1 b2 t1 t2).get? s.heap.objs.size = some _ := Heap.get?_push_of_some _ (Heap.get?_push_of_some _ (Heap.get?_push_of_some _ (Heap.get?_push_of_some _ (Heap.get?_push_size _ rfl))))
  refine ⟨⟨_, g5, rfl⟩, ?_⟩
  refine h _ (bH4 s.heap b1 b2 t1 t2).objs.size (bH2 s.heap b1 b2 t1 t2).objs.size (bH3 s.heap b1 b2 t1 t2).objs.size s.heap.objs.size (bH1 s.heap b1 t1).objs.size ?_ g5 g3 g4 ⟨_, g1, rfl, rfl⟩ ⟨_, g2, rfl, rfl⟩ ?_ fun c o x =>
    Heap.get?_push_of_some _ (Heap.get?_push_of_some _ (Heap.get?_push_of_some _ (Heap.get?_push_of_some _ (Heap.get?_push_of_some _ x))))
  · constructor <;> (intro q; have q' : @Eq Nat _ _ := q; lia)
  · intro b hb
    simp only [List.mem_cons, List.not_mem_nil, or_false] at hb
    rcases hb with rfl | rfl | rfl | rfl | rfl <;> (apply Nat.le_of_sub_eq_zero; lia)
theorem nextZ_first {z TI TO i1 i2 : Addr} {k : Nat} {c1 c2 : UInt8} {a b : Value} {Q : Option Value → Shared → Prop} (D : Z5 z TI TO i1 i2) (hz : IsZ s.heap z TI TO .none false) (hTI : IsPair s.heap TI (.ref i1) (.ref i2)) (hTO : IsPair s.heap TO a b)
    (h1 : KBw.IsBytesIter s.heap i1 b1 t1 k) (h2 : KBw.IsBytesIter s.heap i2 b2 t2 k) (hx : b1[k]? = some c1) (hy : b2[k]? = some c2)
    (hQ : ∀ h' u1 u2 tk, IsZ h' z TI TO (rawInt s.heap.objs.size) false → IsPair h' TO (.int c1.toNat u1) (.int c2.toNat u2) → KBw.IsBytesIter h' i1 b1 t1 (k + 1) → KBw.IsBytesIter h' i2 b2 t2 (k + 1) → IsPair h' s.heap.objs.size (.int c1.toNat u1) (.int c2.toNat u2) →
      (∀ c o, c ≠ z → c ≠ TO → c ≠ i1 → c ≠ i2 → s.heap.get? c = some o → h'.get? c = some o) → Q (some (.ref s.heap.objs.size)) { s with heap := h', toks := tk }) :
    wpAny (model prog w) A (pyNext (.ref z)) Q E s := by
  have hT : s.TypeIs (.ref z) "zip" := ⟨_, hz, rfl⟩
  unfold pyNext
  exact wpAny_bind (wpAny_attempt (wpAny_callSpecial?_slot (name := Str.ofString "__next__") hT F.slot_zip_next
    (wpAny_call_entry F.slot_zip_next hT F.entry_zip_next
      (zB_first D hz hTI hTO h1 h2 hx hy fun h' u1 u2 tk a1 a2 a3 a4 a5 a6 => wpAny_pure (hQ h' u1 u2 tk a1 a2 a3 a4 a5 a6)) (F.args_zip_next_1 _))))
theorem nextZ_next {z TI TO i1 i2 : Addr} {k : Nat} {c1 c2 : UInt8} {T0 : Addr} {o0 : Obj} {f1 : Bool} {Q : Option Value → Shared → Prop} (D : Z5 z TI TO i1 i2) (hz : IsZ s.heap z TI TO (rawInt T0) f1) (hT0 : s.heap.get? T0 = some o0) (hTI : IsPair s.heap TI (.ref i1) (.ref i2))
    (h1 : KBw.IsBytesIter s.heap i1 b1 t1 k) (h2 : KBw.IsBytesIter s.heap i2 b2 t2 k) (hx : b1[k]? = some c1) (hy : b2[k]? = some c2)
    (hQ : ∀ h' u1 u2 tk, IsZ h' z TI TO (rawInt T0) true → KBw.IsBytesIter h' i1 b1 t1 (k + 1) → KBw.IsBytesIter h' i2 b2 t2 (k + 1) → IsPair h' s.heap.objs.size (.int c1.toNat u1) (.int c2.toNat u2) →
      (∀ c o, c ≠ z → c ≠ i1 → c ≠ i2 → s.heap.get? c = some o → h'.get? c = some o) → Q (some (.ref s.heap.objs.size)) { s with heap := h', toks := tk }) :
    wpAny (model prog w) A (pyNext (.ref z)) Q E s := by
  have hT : s.TypeIs (.ref z) "zip" := ⟨_, hz, rfl⟩
  unfold pyNext
  exact wpAny_bind (wpAny_attempt (wpAny_callSpecial?_slot (name := Str.ofString "__next__") hT F.slot_zip_next
    (wpAny_call_entry F.slot_zip_next hT F.entry_zip_next
      (zB_next D hz hT0 hTI h1 h2 hx hy fun h' u1 u2 tk a1 a3 a4 a5 a6 => wpAny_pure (hQ h' u1 u2 tk a1 a3 a4 a5 a6)) (F.args_zip_next_1 _))))
theorem nextZ_end {z TI TO i1 i2 : Addr} {k : Nat} {T0 : Addr} {o0 : Obj} {f1 : Bool} {Q : Option Value → Shared → Prop} (hh : A.handled = none) (D : Z5 z TI TO i1 i2) (hz : IsZ s.heap z TI TO (rawInt T0) f1) (hT0 : s.heap.get? T0 = some o0) (hTI : IsPair s.heap TI (.ref i1) (.ref i2))
    (h1 : KBw.IsBytesIter s.heap i1 b1 t1 k) (hx : b1[k]? = none)
    (hQ : ∀ h', (∀ c o, c ≠ z → c ≠ i1 → c ≠ i2 → s.heap.get? c = some o → h'.get? c = some o) → Q none { s with heap := h' }) :
    wpAny (model prog w) A (pyNext (.ref z)) Q E s := by
  have hT : s.TypeIs (.ref z) "zip" := ⟨_, hz, rfl⟩
  unfold pyNext
  refine wpAny_bind (wpAny_attempt (wpAny_callSpecial?_slot (name := Str.ofString "__next__") hT F.slot_zip_next
    (wpAny_call_entry F.slot_zip_next hT F.entry_zip_next (zB_end hh D hz hT0 hTI h1 hx fun h' e hk he => ?_) (F.args_zip_next_1 _))))
  obtain ⟨o, ho, hc⟩ := he
  refine wpAny_bind (wpAny_isInstance (T := "StopIteration") (b := true) ⟨o, ho, hc⟩ isSubtype_stop ?_)
  exact wpAny_pure (hQ _ hk)
theorem iterZ {z TI TO : Addr} {f0 : Value} {f1 : Bool} {Q : Value → Shared → Prop} (hz : IsZ s.heap z TI TO f0 f1) (h : Q (.ref z) s) : wpAny (model prog w) A (pyIter (.ref z)) Q E s := by
  have hT : s.TypeIs (.ref z) "zip" := ⟨_, hz, rfl⟩
  refine wpAny_pyIter_slot hT F.slot_zip_iter (wpAny_call_entry F.slot_zip_iter hT F.entry_zip_iter ?_ (F.args_zip_iter_1 _))
  show wpAny _ _ (ret (.ref z)) _ _ s
  exact wpAny_pure ⟨_, rfl, "zip", _, hT, F.slot_zip_next.lookup, h⟩
end
end Mine
end
section
open PySem PySem.W PySem.W.X PySem.W.XRun PyProof.Rows PySem.Calls
set_option Elab.async false
set_option maxRecDepth 100000
namespace Mine
noncomputable def ZSt (z TI TO i1 i2 : Addr) (b1 b2 : Array UInt8) (t1 t2 : Tok) (i : Nat) (h : Heap) : Prop :=
  IsPair h TI (.ref i1) (.ref i2) ∧ (∃ a b, IsPair h TO a b) ∧ KBw.IsBytesIter h i1 b1 t1 i ∧ KBw.IsBytesIter h i2 b2 t2 i ∧
    ((i = 0 ∧ IsZ h z TI TO .none false) ∨ (0 < i ∧ ∃ T0 o0 f1, IsZ h z TI TO (rawInt (T0 : Addr)) f1 ∧ h.get? T0 = some o0))
noncomputable def ZP (b1 b2 : Array UInt8) (i : Nat) (v : Value) (g h : Heap) : Prop := ∃ c1 c2 T u1 u2, b1[i]? = some c1 ∧ b2[i]? = some c2 ∧ v = .ref T ∧ g.get? T = none ∧ IsPair h T (.int (c1.toNat : Int) u1) (.int (c2.toNat : Int) u2)
theorem size_gone (h : Heap) : h.get? h.objs.size = none := by
  cases q : h.get? h.objs.size with
  | none => rfl
  | some o => exact absurd (Heap.lt_size q) (Nat.lt_irrefl _)
theorem zipWk {prog : Program} {w : World} {A : Around} (hh : A.handled = none) {z TI TO i1 i2 : Addr} (D : Z5 z TI TO i1 i2) (b1 b2 : Array UInt8) (t1 t2 : Tok) (h12 : b1.size = b2.size) (h0 : 0 < b1.size) :
    Wk prog w A z [z, TI, TO, i1, i2] [z, TO, i1, i2] b1.size (ZP b1 b2) (ZSt z TI TO i1 i2 b1 b2 t1 t2) where
  sub := fun c hc => by simp only [List.mem_cons, List.not_mem_nil, or_false] at hc ⊢; rcases hc with rfl | rfl | rfl | rfl <;> simp
  frame := fun i h h' st hk al => by
    obtain ⟨hTI, ⟨a, b, hTO⟩, ⟨o1, e1, r1⟩, ⟨o2, e2, r2⟩, hz⟩ := st
    refine ⟨hk TI (by simp) _ hTI, ⟨a, b, hk TO (by simp) _ hTO⟩, ⟨o1, hk i1 (by simp) _ e1, r1⟩, ⟨o2, hk i2 (by simp) _ e2, r2⟩, ?_⟩
    rcases hz with ⟨rfl, hz⟩ | ⟨hi, T0, o0, f1, hz, hT⟩
    · exact .inl ⟨rfl, hk z (by simp) _ hz⟩
    · obtain ⟨o', e'⟩ := al _ _ hT
      exact .inr ⟨hi, T0, o', f1, hk z (by simp) _ hz, e'⟩
  item := fun i s Q E hi st hQ => by
    obtain ⟨hTI, ⟨a, b, hTO⟩, h1, h2, hz⟩ := st
    have hi2 : i < b2.size := h12 ▸ hi
    rcases hz with ⟨rfl, hz⟩ | ⟨h0i, T0, o0, f1, hz, hT⟩
    · refine nextZ_first D hz hTI hTO h1 h2 (Array.getElem?_eq_getElem hi) (Array.getElem?_eq_getElem hi2) fun h' u1 u2 tk a1 a2 a3 a4 a5 a6 => ?_
      refine hQ _ h' tk ⟨_, _, _, u1, u2, Array.getElem?_eq_getElem hi, Array.getElem?_eq_getElem hi2, rfl, size_gone _, a5⟩ ⟨a6 _ _ D.TIz D.TITO D.TIi1 D.TIi2 hTI, ⟨_, _, a2⟩, a3, a4, .inr ⟨by lia, _, _, _, a1, a5⟩⟩ fun c o hc e => ?_
      simp only [List.mem_cons, List.not_mem_nil, or_false, not_or] at hc
      exact a6 c o hc.1 hc.2.1 hc.2.2.1 hc.2.2.2 e
    · refine nextZ_next D hz hT hTI h1 h2 (Array.getElem?_eq_getElem hi) (Array.getElem?_eq_getElem hi2) fun h' u1 u2 tk a1 a3 a4 a5 a6 => ?_
      have al : ∃ o', h'.get? T0 = some o' := by
        by_cases q1 : T0 = z
        · rw [q1]; exact ⟨_, a1⟩
        by_cases q2 : T0 = i1
        · rw [q2]; obtain ⟨o, e, _⟩ := a3; exact ⟨o, e⟩
        by_cases q3 : T0 = i2
        · rw [q3]; obtain ⟨o, e, _⟩ := a4; exact ⟨o, e⟩
        exact ⟨_, a6 _ _ q1 q2 q3 hT⟩
      obtain ⟨o', e'⟩ := al
      refine hQ _ h' tk ⟨_, _, _, u1, u2, Array.getElem?_eq_getElem hi, Array.getElem?_eq_getElem hi2, rfl, size_gone _, a5⟩ ⟨a6 _ _ D.TIz D.TIi1 D.TIi2 hTI, ⟨_, _, a6 _ _ D.TOz D.TOi1 D.TOi2 hTO⟩, a3, a4, .inr ⟨by lia, _, _, _, a1, e'⟩⟩ fun c o hc e => ?_
      simp only [List.mem_cons, List.not_mem_nil, or_false, not_or] at hc
      exact a6 c o hc.1 hc.2.2.1 hc.2.2.2 e
  done := fun s Q E st hQ => by
    obtain ⟨hTI, ⟨a, b, hTO⟩, h1, h2, hz⟩ := st
    rcases hz with ⟨q, hz⟩ | ⟨h0i, T0, o0, f1, hz, hT⟩
    · lia
    · refine nextZ_end hh D hz hT hTI h1 (Array.getElem?_eq_none (Nat.le_refl _)) fun h' hk => hQ h' s.toks fun c o hc e => ?_
      simp only [List.mem_cons, List.not_mem_nil, or_false, not_or] at hc
      exact hk c o hc.1 hc.2.2.1 hc.2.2.2 e
  self := fun i s Q E st hQ => by
    obtain ⟨_, _, _, _, hz⟩ := st
    rcases hz with ⟨_, hz⟩ | ⟨_, T0, o0, f1, hz, _⟩
    · exact iterZ hz hQ
    · exact iterZ hz hQ
end Mine
end
section
open PySem PySem.W PySem.W.X PySem.W.XRun PyProof.Rows PySem.Calls
set_option Elab.async false
set_option maxRecDepth 100000
namespace Mine
noncomputable def tstep (told : Int) (p : UInt8 × UInt8) : Int := if told != 0 then told else (p.1.toNat : Int) - (p.2.toNat : Int)
noncomputable def turn (l l' : List UInt8) : Int := (l.zip l').foldl tstep 0
noncomputable abbrev pos100 : Pos := ⟨99, 18, 99, 77⟩
noncomputable abbrev q100 : Str := N.n_law_turn ++ ".<locals>." ++ "<lambda>"
theorem mb_zip (P : Params) : mb P N.n_zip = some (.type "zip") := by kernel_rfl
theorem mg_zip (P : Params) : mg P N.n_zip = none := by kernel_rfl
theorem kl3' {P : Params} {a : Addr} {h : Heap} (B : Bas P h) (e : h.objs.size ≤ a) : (K P).lookup a = none := by
  cases q : (K P).lookup a with
  | none => rfl
  | some o =>
    have e110 := Heap.lt_size (B.at 110 rfl (by decide))
    by_cases n : a ∈ tabs
    · simp only [tabs, List.mem_cons, List.not_mem_nil, or_false] at n
      have : a < 110 := by rcases n with rfl | rfl | rfl <;> decide
      exact absurd (Nat.lt_of_lt_of_le (Nat.lt_trans this e110) e) (Nat.lt_irrefl _)
    · exact absurd (Nat.lt_of_lt_of_le (Heap.lt_size (B a o q n)) e) (Nat.lt_irrefl _)
set_option maxHeartbeats 1000000 in
theorem lturn {w : World} {A : Around} {E : Value → Shared → Prop} {s : Shared} {b1 b2 : Array UInt8} {t1 t2 : Tok} {Q : Value → Shared → Prop}
    (ok : AOk A) (hu : A.units ≤ 1200) (hdp : A.depth ≤ 400) (B : Bas w.params s.heap) (h12 : b1.size = b2.size) (h0 : 0 < b1.size) (T : Tb s.heap 100 pos100 q100)
    (h : ∀ t h' tk, Off [100] s.heap h' → Tb h' 100 pos100 q100 → Q (.int (turn b1.toList b2.toList) t) { s with heap := h', toks := tk }) :
    wpAny (model prog w) A (call (.ref 105) [.bytes b1 t1, .bytes b2 t2]) Q E s := by
  refine A_def (hco := by rfl) (hgen := by rfl) (hk := by rfl) (hcell := by decide) [(N.n_one, .bytes b1 t1), (N.n_two, .bytes b2 t2)] (by lia) (B.at 105 rfl (by decide)) (by exact rfl) B.lim (B.code (c := 104) (by rfl) (by decide) (by exact rfl) (by exact rfl)) (by exact rfl) (BindsTo.of_eq (by exact rfl)) (by show [N.n_two, N.n_one].Nodup; decide) (by exact locs rfl) ?_
  rintro A' h₁ L tk ⟨a1, a2, a3⟩ hL F
  have B1 := B.keeps F.keep
  have T1 := T.kp F.keep
  refine wpAny_execs_cons (wpAny_Return_some (A_call3 (he := by rfl) (f := .ref 37) (lglo (hk := by rfl) (hl := by rfl) (hd := by rfl) B1.g (mg_reduce _) ⟨rfl, kla_eval rfl ?_⟩)))
  refine mkLam rfl rfl B1.g rfl B1.hd104 T1 (by decide) (B1.bat (by decide)) fun f c' ctv h₂ tk₂ k₂ T2 n2 g2 hc2 cr2 hf2 => any_tok (s := s) (hp := h₂) fun tk₂ => ?_
  have h100 : (100 : Nat) < s.heap.objs.size := by obtain ⟨ps, e, _⟩ := T; exact Heap.lt_size e
  have hL100 : L ≠ 100 := by rw [hL]; exact Nat.ne_of_gt h100
  have F2 : Fm {} h₂ L [(N.n_one, .bytes b1 t1), (N.n_two, .bytes b2 t2)] := (F.base (h₁ := {}) (fun b o e => by simp [Heap.get?] at e) (Nat.zero_le _)).off k₂ (nm1 hL100) (fun b _ => by simp [Heap.get?])
  have B2 : Bas w.params h₂ := B1.keepsBut fun b o e hb => k₂ b o (fun hm => hb (by rw [List.mem_singleton] at hm; subst hm; decide)) e
  refine A_call2 (he := by rfl) (f := .type "zip") (lbui (hk := by rfl) (hl := by rfl) (hd := by rfl) B2.g (mg_zip _) B2.b (mb_zip _) ⟨rfl, ldF (hL := by rfl) (hk := by rfl) (hl := by rfl) (hd := by rfl) F2 (by k_mem) (ldF (hL := by rfl) (hk := by rfl) (hl := by rfl) (hd := by rfl) F2 (by k_mem) ⟨calT, call_zipB fun h₃ z TI TO i1 i2 D hz hTI hTO hi1 hi2 hnew k₃ => any_tok (s := s) (hp := h₃) fun tk₃ => ?_⟩)⟩)
  refine wpAny_Constant_int ?_
  have B3 := B2.keeps k₃
  refine ⟨calF (B3.at 37 rfl (by decide)) (by exact rfl), ?_⟩
  have hk : ∀ b ∈ [z, TI, TO, i1, i2], (K w.params).lookup b = none ∧ ∃ o, h₃.get? b = some o := by
    intro b hb
    have hb2 := hnew b hb
    refine ⟨kl3' B2 hb2, ?_⟩
    simp only [List.mem_cons, List.not_mem_nil, or_false] at hb
    rcases hb with rfl | rfl | rfl | rfl | rfl
    · exact ⟨_, hz⟩
    · exact ⟨_, hTI⟩
    · exact ⟨_, hTO⟩
    · obtain ⟨o, e, _⟩ := hi1; exact ⟨o, e⟩
    · obtain ⟨o, e, _⟩ := hi2; exact ⟨o, e⟩
  have hfo : f ∉ [z, TI, TO, i1, i2] := fun hm => absurd (Heap.lt_size g2) (Nat.not_lt.mpr (hnew f hm))
  refine reduceA (P := ZP b1 b2) (Acc := fun i v => ∃ t, v = .int (((b1.toList.zip b2.toList).take i).foldl tstep 0) t) (n := b1.size) (ow := [z, TI, TO, i1, i2]) ⟨a1.trans ok.handled, by lia, by lia⟩ (by lia) (by lia) B3 (k₃ _ _ g2) rfl hfo rfl ⟨_, rfl⟩ hk ?_ ?_ ?_
  · intro A'' s' E' hA'' k
    have hz' := k _ _ hz
    refine iterZ hz' ?_
    exact ⟨z, s'.heap, s'.toks, [z, TI, TO, i1, i2], [z, TO, i1, i2], ZSt z TI TO i1 i2 b1 b2 t1 t2, rfl, rfl, fun _ _ e => e, fun A3 h3 => zipWk h3 D b1 b2 t1 t2 h12 h0,
      ⟨k _ _ hTI, ⟨_, _, k _ _ hTO⟩, (let ⟨o, e, r⟩ := hi1; ⟨o, k _ _ e, r⟩), (let ⟨o, e, r⟩ := hi2; ⟨o, k _ _ e, r⟩), .inl ⟨rfl, hz'⟩⟩, fun x hx => .inl hx⟩
  · rintro i acc v g x s' A'' E' hA'' d1 d2 hi ⟨t, rfl⟩ ⟨c1, c2, T', u1, u2, hc1, hc2, rfl, hg, hp⟩ k hfresh
    have hT' : IsPair s'.heap T' (.int (c1.toNat : Int) u1) (.int (c2.toNat : Int) u2) := hfresh _ _ hg hp
    have ks : ∀ b o, h₂.get? b = some o → s'.heap.get? b = some o := fun b o e => k b o (fun hm => absurd (Heap.lt_size e) (Nat.not_lt.mpr (hnew b hm))) (k₃ _ _ e)
    refine A_lam [(N.n_told, .int (((b1.toList.zip b2.toList).take i).foldl tstep 0) t), (N.n_pair, .ref T')] (by lia) (ks _ _ g2) rfl (B2.keeps ks).lim (cr2.keeps ks) rfl (BindsTo.of_eq (by exact rfl)) (by show [N.n_pair, N.n_told].Nodup; decide) (by exact locs rfl) ?_ rfl rfl rfl (by exact of_decide_eq_true rfl)
    rintro A3 h₄ L3 tk3 ⟨e1, e2, e3⟩ hL3 F3
    refine any_tok (s := s') (hp := h₄) fun tk4 => absQ fun K hK => ?_
    have hT3 : IsTup h₄ T' #[.int (c1.toNat : Int) u1, .int (c2.toNat : Int) u2] := ⟨_, F3.keep _ _ hT', rfl, 0, rfl⟩
    have ez : (b1.toList.zip b2.toList).take (i + 1) = (b1.toList.zip b2.toList).take i ++ [(c1, c2)] := by
      rw [List.take_add_one]
      have e1 : b1.toList[i]? = some c1 := by simpa using hc1
      have e2 : b2.toList[i]? = some c2 := by simpa using hc2
      have : (b1.toList.zip b2.toList)[i]? = some (c1, c2) := by rw [List.getElem?_zip_eq_some]; exact ⟨e1, e2⟩
      rw [this]; rfl
    refine wpAny_IfExp (wpAny_isTrue_Compare1 (ldF (hL := by rfl) (hk := by rfl) (hl := by rfl) (hd := by rfl) F3 (by k_mem) (wpAny_Constant_int (PyProof.Rows.ne_int (wpAny_truthy_bool ?_)))))
    generalize ha : ((b1.toList.zip b2.toList).take i).foldl tstep 0 = a at F3
    by_cases h : (a != 0) = true
    · rw [if_pos h]
      refine ldF (hL := by rfl) (hk := by rfl) (hl := by rfl) (hd := by rfl) F3 (by k_mem) (hK _ _ ⟨⟨_, congrArg (fun z => Value.int z _) ?_⟩, _, _, rfl, F3.keep⟩)
      rw [ez, List.foldl_append, ha]; simp only [List.foldl, tstep, h, if_true]
    · rw [if_neg h]
      refine wpAny_BinOp (wpAny_Subscript_Constant_late (ldF (hL := by rfl) (hk := by rfl) (hl := by rfl) (hd := by rfl) F3 (by k_mem) (wpAny_Constant_int ⟨_, _, slot_tuple_getitem.lookup, hT3.typeIs, PyProof.Rows.getItem_tuple hT3 (by decide) (by decide) (j := 0) (by rfl) rfl ?_⟩)))
      refine wpAny_Subscript_Constant_late (ldF (hL := by rfl) (hk := by rfl) (hl := by rfl) (hd := by rfl) F3 (by k_mem) (wpAny_Constant_int ⟨_, _, slot_tuple_getitem.lookup, hT3.typeIs, PyProof.Rows.getItem_tuple hT3 (by decide) (by decide) (j := 1) (by rfl) rfl ?_⟩))
      refine sub_int (hK _ _ ⟨⟨_, congrArg (fun z => Value.int z _) ?_⟩, _, _, rfl, F3.keep⟩)
      rw [ez, List.foldl_append, ha]; simp only [List.foldl, tstep, h]; rfl
  · rintro v h' tk' ⟨t, rfl⟩ k
    have e : (b1.toList.zip b2.toList).take b1.size = b1.toList.zip b2.toList := by
      apply List.take_of_length_le; simp
      lia
    rw [e]
    have kk : ∀ b o, h₂.get? b = some o → h'.get? b = some o := fun b o e => k b o (fun hm => absurd (Heap.lt_size e) (Nat.not_lt.mpr (hnew b hm))) (k₃ _ _ e)
    exact h t h' tk' (fun x o hx e => kk x o (k₂ x o hx (F.keep x o e))) (T2.kp kk)
end Mine
end
section
open PySem PySem.W PySem.W.X PySem.W.XRun PyProof.Rows PySem.Calls
set_option Elab.async false
set_option maxRecDepth 100000
namespace Mine
set_option maxHeartbeats 1000000 in
theorem ltK {w : World} {A : Around} (ok : AOk A) (hu : A.units ≤ 1000) (hdp : A.depth ≤ 350) {E : Value → Shared → Prop} {s : Shared} {h₀ : Heap} {C cm x y dx dy : Addr} {b1 b2 : Array UInt8} {t1 t2 : Tok} {Q : Value → Shared → Prop} (B : Bas w.params s.heap)
    {k : KIn} {ns X fr Nn c2 D : Addr} {td tr : Tok} {hs hd : Int} {tdoc : Tok} {doc2 ctv2 : Value} {s0 s2 s3 : Option Value}
    (gC : s.heap.get? C = some (kCls C Nn s0 s2 s3)) (gN : s.heap.get? Nn = some ⟨.type "dict", none, .dict (kEs4 k hs tr D hd tdoc) 3, #[]⟩) (gD : s.heap.get? D = some (memO C td))
    (g2 : s.heap.get? k.f2 = some (fO w ns X fr cm N.d_lt 3 [(N.n_mycmp, cm)] doc2 c2 ctv2)) (r2 : s.heap.CodeRec (.ref c2) (qualnameIn (cEnv w.params ns X fr cm) N.d_lt N.d_lt))
    (hcm : s.heap.IsCell cm (some (.ref 105))) (gx : s.heap.get? x = some (iO C dx (.bytes b1 t1))) (gy : s.heap.get? y = some (iO C dy (.bytes b2 t2))) (h12 : b1.size = b2.size) (h0 : 0 < b1.size) (T : Tb s.heap 100 pos100 q100)
    (h : ∀ h' tk, Off [100] s.heap h' → Tb h' 100 pos100 q100 → Q (.bool (decide (turn b1.toList b2.toList < 0))) { s with heap := h', toks := tk }) :
    wpAny (model prog w) A (call (.ref k.f2) [.ref x, .ref y]) Q E s := by
  obtain ⟨p1, p2, p3, p4, p5, p6, p7, p8, p9, hb⟩ := lBod w.params
  refine A_defE [(N.n_self, .ref x), (N.n_other, .ref y)] (by lia) g2 rfl B.lim r2 (body := dBod (cI w.params 3)) rfl (by kernel_rfl) (by show [N.n_other, N.n_self].Nodup; decide) ?_ ?_ (by kernel_rfl) (by kernel_rfl) (by kernel_rfl) ?_
  · intro y hy
    simp only [List.mem_cons, List.not_mem_nil, or_false] at hy
    rcases hy with rfl | rfl <;> kernel_rfl
  · rintro A2 h2 L tk2 ⟨a1, a2, a3⟩ hL F
    have ok2 : AOk A2 := ⟨a1.trans ok.handled, by lia, by lia⟩
    have kp := F.keep
    have e1 : (callEnv (fnX N.d_lt (qualnameIn (cEnv w.params ns X fr cm) N.d_lt N.d_lt) (dPar (cI w.params 3)) (dBod (cI w.params 3)) (dSco (cI w.params 3)) [(N.n_mycmp, cm)] .none .none doc2 ((mg w.params "__name__").getD .none) none (.ref c2) ctv2) L k.f2).locals = L := rfl
    have e2 : (callEnv (fnX N.d_lt (qualnameIn (cEnv w.params ns X fr cm) N.d_lt N.d_lt) (dPar (cI w.params 3)) (dBod (cI w.params 3)) (dSco (cI w.params 3)) [(N.n_mycmp, cm)] .none .none doc2 ((mg w.params "__name__").getD .none) none (.ref c2) ctv2) L k.f2).scope.kind = .function := by kernel_rfl
    have e3 : (callEnv (fnX N.d_lt (qualnameIn (cEnv w.params ns X fr cm) N.d_lt N.d_lt) (dPar (cI w.params 3)) (dBod (cI w.params 3)) (dSco (cI w.params 3)) [(N.n_mycmp, cm)] .none .none doc2 ((mg w.params "__name__").getD .none) none (.ref c2) ctv2) L k.f2).kindOf N.n_self = some .local := by kernel_rfl
    have e4 : (callEnv (fnX N.d_lt (qualnameIn (cEnv w.params ns X fr cm) N.d_lt N.d_lt) (dPar (cI w.params 3)) (dBod (cI w.params 3)) (dSco (cI w.params 3)) [(N.n_mycmp, cm)] .none .none doc2 ((mg w.params "__name__").getD .none) none (.ref c2) ctv2) L k.f2).kindOf N.n_other = some .local := by kernel_rfl
    have e5 : (callEnv (fnX N.d_lt (qualnameIn (cEnv w.params ns X fr cm) N.d_lt N.d_lt) (dPar (cI w.params 3)) (dBod (cI w.params 3)) (dSco (cI w.params 3)) [(N.n_mycmp, cm)] .none .none doc2 ((mg w.params "__name__").getD .none) none (.ref c2) ctv2) L k.f2).kindOf N.n_mycmp = some .free := by kernel_rfl
    have e6 : (callEnv (fnX N.d_lt (qualnameIn (cEnv w.params ns X fr cm) N.d_lt N.d_lt) (dPar (cI w.params 3)) (dBod (cI w.params 3)) (dSco (cI w.params 3)) [(N.n_mycmp, cm)] .none .none doc2 ((mg w.params "__name__").getD .none) none (.ref c2) ctv2) L k.f2).cells.lookup N.n_mycmp = some cm := by kernel_rfl
    revert e1 e2 e3 e4 e5 e6
    generalize callEnv (fnX N.d_lt (qualnameIn (cEnv w.params ns X fr cm) N.d_lt N.d_lt) (dPar (cI w.params 3)) (dBod (cI w.params 3)) (dSco (cI w.params 3)) [(N.n_mycmp, cm)] .none .none doc2 ((mg w.params "__name__").getD .none) none (.ref c2) ctv2) L k.f2 = env
    intro e1 e2 e3 e4 e5 e6
    rw [hb]
    refine wpAny_execs_cons (wpAny_Return_some (wpAny_Compare1 (A_call2 (f := .ref 105) (wpAny_Name (wpAny_loadName_free e2 e5 e6 (hcm.keeps kp) ⟨rfl, ?_⟩) (by rfl)) rfl)))
    refine Attribute_any_ (ldF (hd := by rfl) F (by k_mem) (getObj ok2 (kp _ _ gC) (kp _ _ gN) (kp _ _ gD) (kp _ _ gx) fun tk3 => ?_) e1 e2 e3) rfl
    refine Attribute_any_ (ldF (hd := by rfl) F (by k_mem) (getObj ok2 (kp _ _ gC) (kp _ _ gN) (kp _ _ gD) (kp _ _ gy) fun tk4 => ?_) e1 e2 e4) rfl
    have B2 := B.keeps kp
    refine ⟨calF (B2.at 105 rfl (by decide)) (by exact rfl), lturn ok2 (by lia) (by lia) B2 h12 h0 (T.kp kp) fun t h' tk5 off T' => ?_⟩
    refine wpAny_Constant_int (PyProof.Rows.lt_int ?_)
    exact h h' _ (fun b o hb e => off b o hb (kp b o e)) T'
  · exact of_decide_eq_true (by kernel_rfl)
end Mine
end
section
open PySem PySem.W PyProof.Rows
set_option Elab.async false
set_option maxRecDepth 100000
namespace Mine
section
variable {f : Nat → Int} {p : Array Nat}
noncomputable def Fk (f : Nat → Int) (p : Array Nat) (k : Nat) : Int := f (p.getD k 0)
theorem Fk_eq {p q : Array Nat} {i j : Nat} (h : p[i]? = q[j]?) : Fk f p i = Fk f q j := by
  unfold Fk; rw [Array.getD_eq_getD_getElem?, Array.getD_eq_getD_getElem?, h]
theorem Fk_rev {i j : Nat} (hj : j ≤ p.size) (k : Nat) : Fk f (kas_rev p i j) k = if i ≤ k ∧ k < j then Fk f p (i + j - 1 - k) else Fk f p k := by
  have e := getElem?_mirror_all (i := i) hj k
  split at e
  · rename_i h; rw [if_pos h]; exact Fk_eq e
  · rename_i h; rw [if_neg h]; exact Fk_eq e
theorem nat_mir {i j k : Nat} (h1 : i ≤ k) (h2 : k < j) : i ≤ i + j - 1 - k ∧ i + j - 1 - k < j := by lia
theorem nat_rev {n i j : Nat} (h1 : i ≤ j) (h2 : j < n) : 0 + n - 1 - j ≤ 0 + n - 1 - i ∧ 0 + n - 1 - i < n := by lia
theorem mid_ok {l r fu : Nat} (h : l < r) (c : r - l ≤ fu + 1) : l ≤ (l + r) / 2 ∧ (l + r) / 2 < r ∧ (l + r) / 2 - l ≤ fu ∧ r - ((l + r) / 2 + 1) ≤ fu := by lia
theorem Fk_rev_eq {i j : Nat} (hj : j ≤ p.size) (he : ∀ k, i ≤ k → k < j → Fk f p k = Fk f p (j - 1)) (k : Nat) : Fk f (kas_rev p i j) k = Fk f p k := by
  rw [Fk_rev hj]
  split
  · rename_i h
    rw [he k h.1 h.2, he (i + j - 1 - k) (nat_mir h.1 h.2).1 (nat_mir h.1 h.2).2]
  · rfl
theorem Fk_bub {src d : Nat} (hs : src < p.size) (hd : d ≤ src) (k : Nat) : Fk f (bubble p src d) k = if k = src - d then Fk f p src else if src - d < k ∧ k ≤ src then Fk f p (k - 1) else Fk f p k := by
  have e := getElem?_bubble hs d hd k
  split at e
  · rename_i h; rw [if_pos h]; exact Fk_eq e
  · rename_i h
    rw [if_neg h]
    split at e
    · rename_i h2; rw [if_pos h2]; exact Fk_eq e
    · rename_i h2; rw [if_neg h2]; exact Fk_eq e
noncomputable def Up (f : Nat → Int) (p : Array Nat) (k : Nat) : Prop := ∀ i j, i ≤ j → j < k → Fk f p i ≤ Fk f p j
noncomputable def Dn (f : Nat → Int) (p : Array Nat) (k : Nat) : Prop := ∀ i j, i ≤ j → j < k → Fk f p j ≤ Fk f p i
theorem Up.rev {n : Nat} (hn : n ≤ p.size) (h : Dn f p n) : Up f (kas_rev p 0 n) n := fun i j hij hj => by
  rw [Fk_rev hn, Fk_rev hn, if_pos ⟨Nat.zero_le _, Nat.lt_of_le_of_lt hij hj⟩, if_pos ⟨Nat.zero_le _, hj⟩]
  exact h _ _ (nat_rev hij hj).1 (nat_rev hij hj).2
theorem rev_perm (i j : Nat) : (kas_rev p i j).Perm p := mirror_perm _ _ _ _
end
section
variable {f : Nat → Int} {N : Nat} {Inv : Shared → Prop} {cmp : Nat → Nat → (Bool → Shared → Prop) → Shared → Prop}
noncomputable def Ans (f : Nat → Int) (N : Nat) (Inv : Shared → Prop) (cmp : Nat → Nat → (Bool → Shared → Prop) → Shared → Prop) : Prop :=
  ∀ i j C s, i < N → j < N → Inv s → (∀ s', Inv s' → C (decide (f i < f j)) s') → cmp i j C s
structure Row (N : Nat) (p : Array Nat) : Prop where
  pos : 0 < N
  perm : p.Perm (List.toArray (List.range N))
theorem Row.size {p : Array Nat} (r : Row N p) : p.size = N := by rw [r.perm.size_eq]; simp
theorem Row.lt {p : Array Nat} (r : Row N p) (k : Nat) : p.getD k 0 < N := by
  rw [Array.getD_eq_getD_getElem?]
  cases h : p[k]? with
  | none => exact r.pos
  | some x =>
    have hm : x ∈ p := Array.mem_of_getElem? h
    have := r.perm.mem_iff.mp hm
    simpa using this
theorem Row.of {p q : Array Nat} (r : Row N p) (h : q.Perm p) : Row N q := ⟨r.pos, h.trans r.perm⟩
theorem asc_ok (hc : Ans f N Inv cmp) {p : Array Nat} (r : Row N p) {Q : Nat → Shared → Prop} : ∀ (fu n : Nat) (s : Shared), Inv s → 1 ≤ n → Up f p n →
    (∀ m s', Inv s' → n ≤ m → m ≤ n + fu → Up f p m → (m < n + fu → Fk f p m < Fk f p (m - 1)) → Q m s') → (kas_asc p fu n).kasWp cmp Q s
  | 0, n, s, hI, h1, hu, hQ => hQ n s hI (Nat.le_refl _) (Nat.le_refl _) hu (fun h => absurd h (Nat.lt_irrefl _))
  | fu + 1, n, s, hI, h1, hu, hQ => by
    refine hc _ _ _ s (r.lt _) (r.lt _) hI fun s' hI' => ?_
    by_cases h : Fk f p n < Fk f p (n - 1)
    · rw [show decide (f (p.getD n 0) < f (p.getD (n - 1) 0)) = true from decide_eq_true h]
      exact hQ n s' hI' (Nat.le_refl _) (Nat.le_add_right _ _) hu (fun _ => h)
    · rw [show decide (f (p.getD n 0) < f (p.getD (n - 1) 0)) = false from decide_eq_false h]
      show ((if false = true then KasT.ret n else kas_asc p fu (n + 1))).kasWp cmp Q s'
      rw [if_neg (by simp)]
      have e0 : n + 1 + fu = n + (fu + 1) := Nat.add_right_comm n 1 fu
      refine asc_ok hc r fu (n + 1) s' hI' (Nat.le_add_left 1 n) (fun i j hij hj => ?_) fun m s'' hI'' a b c d => hQ m s'' hI'' (Nat.le_of_succ_le a) (Nat.le_trans b (Nat.le_of_eq e0)) c (fun h => d (Nat.lt_of_lt_of_le h (Nat.le_of_eq e0.symm)))
      by_cases e : j = n
      · subst e
        by_cases e2 : i = j
        · subst e2; exact Int.le_refl _
        · exact Int.le_trans (hu i (j - 1) (Nat.le_sub_one_of_lt (Nat.lt_of_le_of_ne hij e2)) (Nat.sub_lt h1 Nat.one_pos)) (Int.not_lt.mp h)
      · exact hu i j hij (Nat.lt_of_le_of_ne (Nat.le_of_lt_succ hj) e)
theorem desc_ok (hc : Ans f N Inv cmp) {Q : Array Nat × Nat × Nat → Shared → Prop} : ∀ (fu n q : Nat) (p : Array Nat) (s : Shared), Row N p → Inv s → 1 ≤ n → q < n → n + fu ≤ N → Dn f p n → (∀ k, n - (q + 1) ≤ k → k < n → Fk f p k = Fk f p (n - 1)) →
    (∀ p' n' q' s', Row N p' → Inv s' → n ≤ n' → n' ≤ n + fu → q' < n' → Dn f p' n' → (∀ k, n' - (q' + 1) ≤ k → k < n' → Fk f p' k = Fk f p' (n' - 1)) → Q (p', n', q') s') → (kas_desc fu p n q).kasWp cmp Q s
  | 0, n, q, p, s, r, hI, h1, hq, hz, hd, he, hQ => hQ p n q s r hI (Nat.le_refl _) (Nat.le_refl _) hq hd he
  | fu + 1, n, q, p, s, r, hI, h1, hq, hz, hd, he, hQ => by
    refine hc _ _ _ s (r.lt _) (r.lt _) hI fun s' hI' => ?_
    have step : ∀ p' : Array Nat, Dn f p' n → Fk f p' n ≤ Fk f p' (n - 1) → Dn f p' (n + 1) := fun p' h1' h2' i j hij hj => by
      by_cases e : j = n
      · subst e
        by_cases e2 : i = j
        · subst e2; exact Int.le_refl _
        · exact Int.le_trans h2' (h1' i (j - 1) (Nat.le_sub_one_of_lt (Nat.lt_of_le_of_ne hij e2)) (Nat.sub_lt h1 Nat.one_pos))
      · exact h1' i j hij (Nat.lt_of_le_of_ne (Nat.le_of_lt_succ hj) e)
    have e0 : n + 1 + fu = n + (fu + 1) := Nat.add_right_comm n 1 fu
    have hz' : n + 1 + fu ≤ N := Nat.le_trans (Nat.le_of_eq e0) hz
    by_cases h : Fk f p n < Fk f p (n - 1)
    · rw [show decide (f (p.getD n 0) < f (p.getD (n - 1) 0)) = true from decide_eq_true h]
      show ((if true = true then (if q > 0 then kas_desc fu (kas_rev p (n - (q + 1)) n) (n + 1) 0 else kas_desc fu p (n + 1) 0) else _)).kasWp cmp Q s'
      rw [if_pos rfl]
      by_cases hq0 : q > 0
      · rw [if_pos hq0]
        have hn : n ≤ p.size := by rw [r.size]; exact Nat.le_trans (Nat.le_add_right _ _) hz
        have ek := Fk_rev_eq (f := f) hn he
        refine desc_ok hc fu (n + 1) 0 _ s' (r.of (rev_perm _ _)) hI' (Nat.le_add_left 1 n) (Nat.succ_pos n) hz' (step _ (fun i j hij hj => by rw [ek, ek]; exact hd i j hij hj) (by rw [ek, ek]; exact Int.le_of_lt h)) (fun k a b => congrArg (Fk f _) (Nat.le_antisymm (Nat.le_of_lt_succ b) a)) fun p' n' q' s'' a b c d e g i => hQ p' n' q' s'' a b (Nat.le_of_succ_le c) (Nat.le_trans d (Nat.le_of_eq e0)) e g i
      · rw [if_neg hq0]
        refine desc_ok hc fu (n + 1) 0 _ s' r hI' (Nat.le_add_left 1 n) (Nat.succ_pos n) hz' (step _ hd (Int.le_of_lt h)) (fun k a b => congrArg (Fk f _) (Nat.le_antisymm (Nat.le_of_lt_succ b) a)) fun p' n' q' s'' a b c d e g i => hQ p' n' q' s'' a b (Nat.le_of_succ_le c) (Nat.le_trans d (Nat.le_of_eq e0)) e g i
    · rw [show decide (f (p.getD n 0) < f (p.getD (n - 1) 0)) = false from decide_eq_false h]
      show (KasT.ask _ _ _).kasWp cmp Q s'
      refine hc _ _ _ s' (r.lt _) (r.lt _) hI' fun s'' hI'' => ?_
      by_cases h2 : Fk f p (n - 1) < Fk f p n
      · rw [show decide (f (p.getD (n - 1) 0) < f (p.getD n 0)) = true from decide_eq_true h2]
        exact hQ p n q s'' r hI'' (Nat.le_refl _) (Nat.le_add_right _ _) hq hd he
      · rw [show decide (f (p.getD (n - 1) 0) < f (p.getD n 0)) = false from decide_eq_false h2]
        show ((if false = true then KasT.ret (p, n, q) else kas_desc fu p (n + 1) (q + 1))).kasWp cmp Q s''
        rw [if_neg (by simp)]
        have eq : Fk f p n = Fk f p (n - 1) := Int.le_antisymm (Int.not_lt.mp h2) (Int.not_lt.mp h)
        refine desc_ok hc fu (n + 1) (q + 1) _ s'' r hI'' (Nat.le_add_left 1 n) (Nat.succ_lt_succ hq) hz' (step _ hd (Int.le_of_eq eq)) (fun k a b => ?_) fun p' n' q' s'' a b c d e g i => hQ p' n' q' s'' a b (Nat.le_of_succ_le c) (Nat.le_trans d (Nat.le_of_eq e0)) e g i
        by_cases e : k = n
        · subst e; rfl
        · rw [he k (Nat.le_trans (Nat.le_of_eq (Nat.add_sub_add_right n 1 (q + 1)).symm) a) (Nat.lt_of_le_of_ne (Nat.le_of_lt_succ b) e)]; exact eq.symm
theorem tail3_ok (hc : Ans f N Inv cmp) {n nrem : Nat} {p : Array Nat} {s : Shared} {Q : Nat × Array Nat → Shared → Prop} (r : Row N p) (hI : Inv s) (h1 : 1 ≤ n) (hn : n ≤ nrem) (hz : nrem ≤ N) (hd : Dn f p n)
    (hQ : ∀ m p' s', Row N p' → Inv s' → 1 ≤ m → m ≤ nrem → Up f p' m → Q (m, p') s') : (kas_tail3 n nrem p).kasWp cmp Q s := by
  unfold kas_tail3
  rw [KasT.kasWp_bind]
  have r' := r.of (rev_perm (p := p) 0 n)
  refine asc_ok hc r' (nrem - n) n s hI h1 (Up.rev (by rw [r.size]; exact Nat.le_trans hn hz) hd) fun m s' hI' a b c _ => ?_
  exact hQ m _ s' r' hI' (Nat.le_trans h1 a) (Nat.le_trans b (Nat.le_of_eq (Nat.add_sub_of_le hn))) c
theorem descPart_ok (hc : Ans f N Inv cmp) {n nrem : Nat} {p : Array Nat} {s : Shared} {Q : Nat × Array Nat → Shared → Prop} (r : Row N p) (hI : Inv s) (h1 : 1 ≤ n) (hn : n + 1 ≤ nrem) (hz : nrem ≤ N) (hd : Dn f p (n + 1))
    (hQ : ∀ m p' s', Row N p' → Inv s' → 1 ≤ m → m ≤ nrem → Up f p' m → Q (m, p') s') : (kas_descPart n nrem p).kasWp cmp Q s := by
  unfold kas_descPart
  rw [KasT.kasWp_bind]
  refine desc_ok hc (nrem - (n + 1)) (n + 1) 0 p s r hI (Nat.le_add_left 1 n) (Nat.succ_pos n) (Nat.le_trans (Nat.le_of_eq (Nat.add_sub_of_le hn)) hz) hd (fun k a b => congrArg (Fk f _) (Nat.le_antisymm (Nat.le_of_lt_succ b) a)) fun p' n' q' s' r' hI' a b c d e => ?_
  have hb : n' ≤ nrem := Nat.le_trans b (Nat.le_of_eq (Nat.add_sub_of_le hn))
  have ha : 1 ≤ n' := Nat.le_trans (Nat.le_add_left 1 n) a
  dsimp only
  by_cases hq : q' > 0
  · rw [if_pos hq]
    have hsz : n' ≤ p'.size := by rw [r'.size]; exact Nat.le_trans hb hz
    have ek := Fk_rev_eq (f := f) hsz e
    exact tail3_ok hc (r'.of (rev_perm _ _)) hI' ha hb hz (fun i j hij hj => by rw [ek, ek]; exact d i j hij hj) hQ
  · rw [if_neg hq]
    exact tail3_ok hc r' hI' ha hb hz d hQ
theorem count_ok (hc : Ans f N Inv cmp) {nrem : Nat} {p : Array Nat} {s : Shared} {Q : Nat × Array Nat → Shared → Prop} (r : Row N p) (hI : Inv s) (h1 : 1 ≤ nrem) (hz : nrem ≤ N)
    (hQ : ∀ m p' s', Row N p' → Inv s' → 1 ≤ m → m ≤ nrem → Up f p' m → Q (m, p') s') : (kas_count nrem p).kasWp cmp Q s := by
  unfold kas_count
  rw [KasT.kasWp_bind]
  refine asc_ok hc r (nrem - 1) 1 s hI (Nat.le_refl _) (fun i j hij hj => by
    have e1 := Nat.lt_one_iff.mp hj
    subst e1
    have e2 := Nat.le_zero.mp hij
    subst e2; exact Int.le_refl _) fun m s' hI' a b c d => ?_
  have hmn : m ≤ nrem := Nat.le_trans b (Nat.le_of_eq (Nat.add_sub_of_le h1))
  by_cases e : (m == nrem) = true
  · rw [if_pos e]
    exact hQ m p s' r hI' a hmn c
  · rw [if_neg e]
    have e' : m < nrem := Nat.lt_of_le_of_ne hmn (fun q => e (beq_iff_eq.mpr q))
    have hlt := d (Nat.lt_of_lt_of_le e' (Nat.le_of_eq (Nat.add_sub_of_le h1).symm))
    by_cases h2 : m > 1
    · rw [if_pos h2]
      refine hc _ _ _ s' (r.lt _) (r.lt _) hI' fun s'' hI'' => ?_
      by_cases h : Fk f p 0 < Fk f p (m - 1)
      · rw [show decide (f (p.getD 0 0) < f (p.getD (m - 1) 0)) = true from decide_eq_true h]
        exact hQ m p s'' r hI'' a hmn c
      · rw [show decide (f (p.getD 0 0) < f (p.getD (m - 1) 0)) = false from decide_eq_false h]
        show (if false = true then KasT.ret (m, p) else kas_descPart m nrem (kas_rev p 0 m)).kasWp cmp Q s''
        rw [if_neg (by simp)]
        have hsz : m ≤ p.size := by rw [r.size]; exact Nat.le_trans hmn hz
        have hall : ∀ k, 0 ≤ k → k < m → Fk f p k = Fk f p (m - 1) := fun k _ hk => by
          exact Int.le_antisymm (c k (m - 1) (Nat.le_sub_one_of_lt hk) (Nat.sub_lt a Nat.one_pos)) (Int.le_trans (Int.not_lt.mp h) (c 0 k (Nat.zero_le _) hk))
        have ek := Fk_rev_eq (f := f) hsz hall
        refine descPart_ok hc (r.of (rev_perm _ _)) hI'' a e' hz (fun i j hij hj => ?_) hQ
        rw [ek, ek]
        by_cases ej : j = m
        · subst ej
          by_cases ei : i = j
          · subst ei; exact Int.le_refl _
          · rw [hall i (Nat.zero_le _) (Nat.lt_of_le_of_ne hij ei)]; exact Int.le_of_lt hlt
        · have hjm := Nat.lt_of_le_of_ne (Nat.le_of_lt_succ hj) ej
          rw [hall i (Nat.zero_le _) (Nat.lt_of_le_of_lt hij hjm), hall j (Nat.zero_le _) hjm]; exact Int.le_refl _
    · rw [if_neg h2]
      have : m = 1 := Nat.le_antisymm (Nat.le_of_not_lt h2) a
      subst this
      refine descPart_ok hc r hI' (Nat.le_refl _) e' hz (fun i j hij hj => ?_) hQ
      by_cases ei : i = j
      · subst ei; exact Int.le_refl _
      · have hl := Nat.lt_of_le_of_ne hij ei
        obtain rfl : j = 1 := Nat.le_antisymm (Nat.le_of_lt_succ hj) (Nat.succ_le_of_lt (Nat.lt_of_le_of_lt (Nat.zero_le _) hl))
        obtain rfl : i = 0 := Nat.lt_one_iff.mp hl
        exact Int.le_of_lt hlt
theorem place_ok (hc : Ans f N Inv cmp) {p : Array Nat} {k : Nat} (r : Row N p) (hu : Up f p k) {Q : Nat → Shared → Prop} : ∀ (fu l rr : Nat) (s : Shared), Inv s → l ≤ rr → rr ≤ k → rr - l ≤ fu → (∀ i, i < l → Fk f p i ≤ Fk f p k) → (∀ i, rr ≤ i → i < k → Fk f p k < Fk f p i) →
    (∀ m s', Inv s' → m ≤ k → (∀ i, i < m → Fk f p i ≤ Fk f p k) → (∀ i, m ≤ i → i < k → Fk f p k < Fk f p i) → Q m s') → (kas_place p k fu l rr).kasWp cmp Q s
  | 0, l, rr, s, hI, a, b, c, d, e, hQ => hQ l s hI (Nat.le_trans a b) d (fun i hi hk => e i (Nat.le_trans (Nat.sub_eq_zero_iff_le.mp (Nat.le_zero.mp c)) hi) hk)
  | fu + 1, l, rr, s, hI, a, b, c, d, e, hQ => by
    unfold kas_place
    by_cases h : l ≥ rr
    · rw [if_pos h]; exact hQ l s hI (Nat.le_trans a b) d (fun i hi hk => e i (Nat.le_trans h hi) hk)
    · rw [if_neg h]
      have hm := mid_ok (Nat.lt_of_not_le h) c
      refine hc _ _ _ s (r.lt _) (r.lt _) hI fun s' hI' => ?_
      by_cases h2 : Fk f p k < Fk f p ((l + rr) / 2)
      · rw [show decide (f (p.getD k 0) < f (p.getD ((l + rr) / 2) 0)) = true from decide_eq_true h2]
        show (if true = true then kas_place p k fu l ((l + rr) / 2) else _).kasWp cmp Q s'
        rw [if_pos rfl]
        exact place_ok hc r hu fu l ((l + rr) / 2) s' hI' hm.1 (Nat.le_trans (Nat.le_of_lt hm.2.1) b) hm.2.2.1 d (fun i hi hk => Int.lt_of_lt_of_le h2 (hu _ _ hi hk)) hQ
      · rw [show decide (f (p.getD k 0) < f (p.getD ((l + rr) / 2) 0)) = false from decide_eq_false h2]
        show (if false = true then _ else kas_place p k fu ((l + rr) / 2 + 1) rr).kasWp cmp Q s'
        rw [if_neg (by simp)]
        exact place_ok hc r hu fu ((l + rr) / 2 + 1) rr s' hI' hm.2.1 b hm.2.2.2 (fun i hi => Int.le_trans (hu i ((l + rr) / 2) (Nat.le_of_lt_succ hi) (Nat.lt_of_lt_of_le hm.2.1 b)) (Int.not_lt.mp h2)) e hQ
theorem bin_ok (hc : Ans f N Inv cmp) {Q : Array Nat → Shared → Prop} : ∀ (fu k : Nat) (p : Array Nat) (s : Shared), Row N p → Inv s → k + fu = N → Up f p k → (∀ p' s', Row N p' → Inv s' → Up f p' N → Q p' s') → (kas_bin fu p k).kasWp cmp Q s
  | 0, k, p, s, r, hI, hk, hu, hQ => by
    have : k = N := hk
    subst this; exact hQ p s r hI hu
  | fu + 1, k, p, s, r, hI, hk, hu, hQ => by
    unfold kas_bin
    rw [KasT.kasWp_bind]
    refine place_ok hc r hu k 0 k s hI (Nat.zero_le _) (Nat.le_refl _) (Nat.le_refl _) (fun i hi => absurd hi (Nat.not_lt_zero _)) (fun i a b => absurd b (Nat.not_lt.mpr a)) fun l s' hI' hl ha hb => ?_
    have hks : k < p.size := by rw [r.size, ← hk]; exact Nat.lt_add_of_pos_right (Nat.succ_pos fu)
    refine bin_ok hc fu (k + 1) _ s' (r.of (bubble_perm _ _ _)) hI' ((Nat.add_right_comm k 1 fu).trans hk) (fun i j hij hj => ?_) hQ
    have hjk := Nat.le_of_lt_succ hj
    rw [Fk_bub hks (Nat.sub_le k l), Fk_bub hks (Nat.sub_le k l), Nat.sub_sub_self hl]
    by_cases e1 : i = l
    · rw [if_pos e1]
      by_cases e2 : j = l
      · rw [if_pos e2]; exact Int.le_refl _
      · have hlj : l < j := Nat.lt_of_le_of_ne (e1 ▸ hij) (Ne.symm e2)
        rw [if_neg e2, if_pos ⟨hlj, hjk⟩]
        exact Int.le_of_lt (hb (j - 1) (Nat.le_sub_one_of_lt hlj) (Nat.sub_one_lt_of_le (Nat.lt_of_le_of_lt (Nat.zero_le _) hlj) hjk))
    · rw [if_neg e1]
      by_cases e2 : j = l
      · have hil : i ≤ l := e2 ▸ hij
        rw [if_pos e2, if_neg fun q => absurd q.1 (Nat.not_lt.mpr hil)]
        exact ha i (Nat.lt_of_le_of_ne hil e1)
      · rw [if_neg e2]
        by_cases e3 : l < i ∧ i ≤ k
        · have hlj := Nat.lt_of_lt_of_le e3.1 hij
          rw [if_pos e3, if_pos ⟨hlj, hjk⟩]
          exact hu _ _ (Nat.sub_le_sub_right hij 1) (Nat.sub_one_lt_of_le (Nat.lt_of_le_of_lt (Nat.zero_le _) hlj) hjk)
        · rw [if_neg e3]
          by_cases e4 : l < j ∧ j ≤ k
          · rw [if_pos e4]; exact hu _ _ (Nat.le_sub_one_of_lt (Nat.lt_of_le_of_lt (Nat.le_of_not_lt fun q => e3 ⟨q, Nat.le_trans hij e4.2⟩) e4.1)) (Nat.sub_one_lt_of_le (Nat.lt_of_le_of_lt (Nat.zero_le _) e4.1) e4.2)
          · rw [if_neg e4]; exact hu _ _ hij (Nat.lt_of_lt_of_le (Nat.lt_of_le_of_ne (Nat.le_of_not_lt fun q => e4 ⟨q, hjk⟩) e2) hl)
theorem sort_ok (hc : Ans f N Inv cmp) {Q : Array Nat → Shared → Prop} {s : Shared} (hN : 2 ≤ N) (hI : Inv s) (hQ : ∀ p' s', Row N p' → Inv s' → Up f p' N → Q p' s') : (kas_sort N).kasWp cmp Q s := by
  unfold kas_sort
  rw [KasT.kasWp_bind]
  refine count_ok hc (p := List.toArray (List.range N)) ⟨Nat.lt_of_lt_of_le Nat.two_pos hN, .refl _⟩ hI (Nat.le_of_succ_le hN) (Nat.le_refl _) fun m p' s' r' hI' a b c => ?_
  dsimp only
  by_cases h : m < N
  · rw [if_pos h]
    have e : max m 1 = m := Nat.max_eq_left a
    rw [e]
    exact bin_ok hc (N - m) m p' s' r' hI' (Nat.add_sub_of_le b) c hQ
  · rw [if_neg h]
    have : m = N := Nat.le_antisymm b (Nat.not_lt.mp h)
    subst this
    exact hQ p' s' r' hI' c
end
end Mine
end
section
open PySem PySem.W PySem.W.X PySem.W.XRun PyProof.Rows PySem.Calls
set_option Elab.async false
set_option maxRecDepth 100000
namespace Mine
theorem ob_lt : typeLookup (.type "object") "__lt__" = pure (some (.builtin "object.__lt__")) := by rw [typeLookup_type, builtinLookup_eq_fast]; kernel_rfl
theorem tyK {M : Model} {A : Around} {E : Value → Shared → Prop} {s : Shared} {x C : Addr} {d : Option Addr} {dt : Data} {sl : Array (Option Value)} {Q : Value → Shared → Prop} (gx : s.heap.get? x = some ⟨.ref C, d, dt, sl⟩) (h : Q (.ref C) s) : wpAny M A (typeOf (.ref x)) Q E s := by
  unfold typeOf
  exact wpAny_bind (wpAny_loadPart gx (wpAny_pure h))
set_option maxHeartbeats 1000000 in
theorem keyLtK {w : World} {A : Around} {E : Value → Shared → Prop} {s : Shared} {C Nn D x dx : Addr} {y v : Value} {k : KIn} {tr : Tok} {hs hd : Int} {tdoc : Tok} {s0 s2 s3 : Option Value} {o2 : Obj} {Q : Bool → Shared → Prop} (hu : A.units < cLine)
    (gC : s.heap.get? C = some (kCls C Nn s0 s2 s3)) (gN : s.heap.get? Nn = some ⟨.type "dict", none, .dict (kEs4 k hs tr D hd tdoc) 3, #[]⟩) (g2 : s.heap.get? k.f2 = some o2) (hfc : o2.cls = .type "function")
    (gx : s.heap.get? x = some (iO C dx v))
    (h : wpAny (model prog w) A (call (.ref k.f2) [.ref x, y]) (fun v s' => ∃ b, v = .bool b ∧ Q b s') E s) : wpAny (model prog w) A (keyLt' oneType' (.ref x) y) Q E s := by
  rw [keyLt'_oneType, oneLt'_eq]
  simp only [if_true]
  refine wpAny_bind (wpAny_cRoomFor hu ?_)
  have hTf : s.TypeIs (.ref k.f2) "function" := ⟨_, g2, hfc⟩
  have hb : ∀ (Q' : Value × List Value → Shared → Prop) (E' : Value → Shared → Prop), Q' (.ref k.f2, [.ref x]) s → wpAny (model prog w) A (bindSpecial (.ref k.f2) (.ref x)) Q' E' s := fun Q' E' hq => by
    unfold bindSpecial
    refine wpAny_bind (wpAny_typeOf hTf ?_)
    rw [if_pos (by decide)]
    exact wpAny_pure hq
  refine wpAny_bind ?_
  simp only [callSpecialIfBound?, bindSpecialIfBound?, specialOf]
  refine wpAny_holding (wpAny_bind (wpAny_bind (wpAny_bind (tyK gx (tlook (cd := kCd C Nn) (r := some (.ref k.f2)) gC rfl rfl gN (by kernel_rfl) ob_lt ?_)))))
  refine wpAny_bind (wpAny_askSetting (wpAny_ite ?_))
  have fin : wpAny (model prog w) A (call (.ref k.f2) ([.ref x] ++ [y]) >>= fun v => pure (some v)) (fun r s' => ∃ b, r = some (.bool b) ∧ Q b s') E s := wpAny_bind (wpAny_mono h (fun v s' h' => by obtain ⟨b, rfl, hq⟩ := h'; exact wpAny_pure ⟨b, rfl, hq⟩) fun _ _ h' => h')
  have fin2 := wpAny_mono fin (Q' := fun a s' => wpAny (model prog w) A (match a with
      | some .notImplemented | none => do
        rule "list.sort.lt-declined"
        truthOfDropped (← richCompare .Lt (.ref x) y)
      | some r => truthOfDropped r) Q E s') (fun r s' hr => by obtain ⟨b, rfl, hq⟩ := hr; exact wpAny_truthy_bool hq) (fun _ _ e => e)
  split
  · exact wpAny_bind (hb _ _ (wpAny_pure (by exact fin2)))
  · exact wpAny_tryCatch (wpAny_bind (hb _ _ (wpAny_pure (by exact fin2))))
end Mine
end
section
open PySem
set_option Elab.async false
namespace Mine
theorem tkeep : ∀ (l : List (UInt8 × UInt8)) (a : Int), a ≠ 0 → l.foldl tstep a = a
  | [], _, _ => rfl
  | p :: l, a, h => by
    rw [List.foldl_cons]
    have : tstep a p = a := by unfold tstep; rw [if_pos (by simpa using h)]
    rw [this]; exact tkeep l a h
theorem turn_cons (a b : UInt8) (l l' : List UInt8) : turn (a :: l) (b :: l') = if a = b then turn l l' else (a.toNat : Int) - (b.toNat : Int) := by
  unfold turn
  rw [List.zip_cons_cons, List.foldl_cons]
  have e : tstep 0 (a, b) = (a.toNat : Int) - (b.toNat : Int) := by unfold tstep; rw [if_neg (by simp)]
  rw [e]
  by_cases h : a = b
  · subst h; rw [if_pos rfl, Int.sub_self]
  · rw [if_neg h]
    refine tkeep _ _ fun q => h ?_
    apply UInt8.toNat_inj.mp; lia
theorem num_acc (l : List UInt8) : ∀ a : Nat, l.foldl (fun a x => a * 256 + x.toNat) a = a * 256 ^ l.length + num l := by
  induction l with
  | nil => intro a; simp [num]
  | cons x l ih =>
    intro a
    have e : num (x :: l) = x.toNat * 256 ^ l.length + num l := by
      unfold num; rw [List.foldl_cons, ih]; simp [num]
    rw [List.foldl_cons, ih, e, List.length_cons, Nat.pow_succ, Nat.add_mul]
    rw [show a * 256 * 256 ^ l.length = a * (256 ^ l.length * 256) by rw [Nat.mul_assoc, Nat.mul_comm 256]]
    lia
theorem num_cons (x : UInt8) (l : List UInt8) : num (x :: l) = x.toNat * 256 ^ l.length + num l := by
  unfold num; rw [List.foldl_cons]
  have := num_acc l (0 * 256 + x.toNat)
  rw [this]; simp [num]
theorem num_lt : ∀ l : List UInt8, num l < 256 ^ l.length
  | [] => by simp [num]
  | x :: l => by
    rw [num_cons, List.length_cons, Nat.pow_succ]
    have h1 := num_lt l
    have h2 := x.toNat_lt
    have h3 : x.toNat * 256 ^ l.length ≤ 255 * 256 ^ l.length := Nat.mul_le_mul_right _ (by lia)
    lia
theorem turn_num : ∀ (l l' : List UInt8), l.length = l'.length → (turn l l' < 0 ↔ num l < num l')
  | [], [], _ => by simp [turn, num]
  | a :: l, b :: l', h => by
    have h' : l.length = l'.length := by simpa using h
    rw [turn_cons, num_cons, num_cons, ← h']
    have q1 := num_lt l
    have q2 := num_lt l'
    rw [← h'] at q2
    by_cases e : a = b
    · subst e
      rw [if_pos rfl, turn_num l l' h']
      lia
    · rw [if_neg e]
      have hne : a.toNat ≠ b.toNat := fun q => e (UInt8.toNat_inj.mp q)
      constructor
      · intro hlt
        have : a.toNat + 1 ≤ b.toNat := by lia
        have := Nat.mul_le_mul_right (256 ^ l.length) this
        rw [Nat.add_mul] at this
        lia
      · intro hlt
        by_cases q : a.toNat < b.toNat
        · lia
        · have : b.toNat + 1 ≤ a.toNat := by lia
          have := Nat.mul_le_mul_right (256 ^ l.length) this
          rw [Nat.add_mul] at this
          lia
end Mine
end
section
open PySem PySem.W PySem.W.X PySem.W.XRun PyProof.Rows PySem.Calls
set_option Elab.async false
set_option maxRecDepth 100000
namespace Mine
theorem ClsK.kp {w : World} {h₀ h h' : Heap} {C cm : Addr} (c : ClsK w h₀ h C cm) (k : Kp h h') : ClsK w h₀ h' C cm := by
  obtain ⟨d, a1, a2, a3, a4, ⟨a5, r5⟩, ⟨a6, r6⟩, a8⟩ := c
  exact ⟨d, a1, k _ _ a2, k _ _ a3, k _ _ a4, ⟨k _ _ a5, r5.keeps k⟩, ⟨k _ _ a6, r6.keeps k⟩, a8⟩
theorem no_str {ps : Array Value} {q : Str} {t : Tok} (h : TriplesOk ps.toList) (v : ps[1]? = some (.str q t)) : False := tri1 h (by rw [Array.getElem?_toList]; exact v)
theorem askK {w : World} {A : Around} (ok : AOk A) (hu : A.units ≤ 1000) (hdp : A.depth ≤ 350) {E : Value → Shared → Prop} {s : Shared} {h₀ hb : Heap} {C cm x y dx dy : Addr} {b1 b2 : Array UInt8} {t1 t2 : Tok} {Q : Bool → Shared → Prop} (B : Bas w.params hb) (ck : ClsK w h₀ hb C cm)
    (hcm : hb.IsCell cm (some (.ref 105))) (gx : hb.get? x = some (iO C dx (.bytes b1 t1))) (gy : hb.get? y = some (iO C dy (.bytes b2 t2))) (h12 : b1.size = b2.size) (h0 : 0 < b1.size)
    (T0 : Tb hb 100 pos100 q100) (off : Off [100] hb s.heap) (T : Tb s.heap 100 pos100 q100)
    (h : ∀ h' tk, Off [100] hb h' → Tb h' 100 pos100 q100 → Q (decide ((num b1.toList : Int) < num b2.toList)) { s with heap := h', toks := tk }) :
    wpAny (model prog w) A (keyLt' oneType' (.ref x) (.ref y)) Q E s := by
  obtain ⟨⟨k, ns, X, fr, Nn, bt, t, D, td, tr, hs, hd, tdoc, c2, doc2, ctv2, c1, doc1, ctv1⟩, hq, gC, gN, gD, ⟨g1, r1⟩, ⟨g2, r2⟩, _⟩ := ck
  dsimp only at hq gC gN gD g1 r1 g2 r2
  have up : ∀ {b : Addr} {o : Obj}, hb.get? b = some o → (∀ ps, o ≠ tabObj ps) → s.heap.get? b = some o := fun {b o} e hn => off b o (fun hm => by
    rw [List.mem_singleton] at hm; subst hm
    obtain ⟨ps, q, _, _⟩ := T0
    rw [q] at e; cases e; exact hn ps rfl) e
  have gC' : hb.get? C = some (kCls C Nn (some (.ref bt)) (some (.str N.d_K t)) (some (.str qK k.tq))) := by
    rw [gC]; unfold clsK2 sl6; rw [hq]
  have e : decide ((num b1.toList : Int) < num b2.toList) = decide (turn b1.toList b2.toList < 0) := by
    have := turn_num b1.toList b2.toList (by simpa using h12)
    rw [decide_eq_decide]; rw [this]; lia
  have r2' : s.heap.CodeRec (.ref c2) (qualnameIn (cEnv w.params ns X fr cm) N.d_lt N.d_lt) := by
    obtain ⟨c', o', vs', t', e', g', d', v'⟩ := r2
    refine ⟨c', o', vs', t', e', off _ _ (fun hm => ?_) g', d', v'⟩
    rw [List.mem_singleton] at hm; subst hm
    obtain ⟨ps, q, tr', _⟩ := T0
    rw [q] at g'; cases g'; cases d'
    exact no_str tr' v'
  have hcm' : s.heap.IsCell cm (some (.ref 105)) := by
    obtain ⟨o', g', d'⟩ := hcm
    exact ⟨o', up g' (fun ps q => by rw [q] at d'; cases d'), d'⟩
  have B' : Bas w.params s.heap := B.offK off (fun b hb => .inl (by rw [List.mem_singleton] at hb; subst hb; decide))
  refine keyLtK (by show A.units < 9900; lia) (up gC' (by intro ps q; cases q)) (up gN (by intro ps q; cases q)) (up g2 (by intro ps q; cases q)) rfl (up gx (by intro ps q; cases q)) ?_
  refine ltK (h₀ := h₀) ok hu hdp B' (up gC' (by intro ps q; cases q)) (up gN (by intro ps q; cases q)) (up gD (by intro ps q; cases q)) (up g2 (by intro ps q; cases q)) r2' hcm' (up gx (by intro ps q; cases q)) (up gy (by intro ps q; cases q)) h12 h0 T fun h' tk off' T' => ?_
  exact ⟨_, rfl, by rw [← e]; exact h h' tk (fun b o hb e => off' b o hb (off b o hb e)) T'⟩
theorem Tb.seq {h h' : Heap} {P b : Addr} {pos : Pos} {q : Str} {c : String} {xs : Array Value} {n : Nat} (T : Tb h P pos q) (k : Heap.SameBut b h h') (g : h.get? b = some (seqObj c xs n)) : Tb h' P pos q := by
  obtain ⟨ps, e, t, r⟩ := T
  have key : ∀ {x : Addr} {o : Obj}, h.get? x = some o → (∀ xs n, o.data ≠ .seq xs n) → h'.get? x = some o := fun {x o} e hn => (k.2 x (fun q => by subst q; rw [g] at e; cases e; exact hn _ _ rfl)).trans e
  refine ⟨ps, key e (by intro xs n q; cases q), t, r.imp id fun ⟨c', x, z, y⟩ => ⟨c', x, z, ?_⟩⟩
  obtain ⟨c₂, o₂, vs₂, t₂, e₂, g₂, d₂, v₂⟩ := y
  exact ⟨c₂, o₂, vs₂, t₂, e₂, key g₂ (by intro xs n; rw [d₂]; intro q; cases q), d₂, v₂⟩
noncomputable def KeysAt (h : Heap) (C : Addr) (ws : Nat → Array UInt8) (ts : Nat → Tok) (xs : List Addr) : Prop := ∀ j x, xs[j]? = some x → ∃ d, h.get? x = some (iO C d (.bytes (ws j) (ts j)))
section
variable {w : World} {A : Around} {E : Value → Shared → Prop} {s : Shared} {h₀ : Heap} {C cm a kS : Addr} {vs : List Value} {ws : Nat → Array UInt8} {ts : Nat → Tok} {wd : Nat} {xs : List Addr} {e e1 : Nat} {P : PySem.Fin → Shared → Prop}
set_option maxHeartbeats 1000000 in
theorem endK (ok : AOk A) (hu : A.units ≤ 1000) (hdp : A.depth ≤ 350) (B : Bas w.params s.heap) (ck : ClsK w h₀ s.heap C cm) (hcm : s.heap.IsCell cm (some (.ref 105))) (T : Tb s.heap 100 pos100 q100)
    (h2 : 2 ≤ vs.length) (h64 : vs.length < 64) (hxs : xs.length = vs.length) (hws : ∀ i, i < vs.length → (ws i).size = wd) (hwd : 0 < wd) (hka : kS ≠ a) (hk1 : kS ≠ 100) (ha1 : a ≠ 100)
    (gK : s.heap.get? kS = some (seqObj "list" (xs.map Value.ref).toArray e)) (gA : s.heap.get? a = some (seqObj "list" #[] e1)) (kx : KeysAt s.heap C ws ts xs)
    (h : ∀ h' tk p c, Row vs.length p → Up (fun i => (num (ws i).toList : Int)) p vs.length → h'.get? a = some (seqObj "list" (p.map fun i => vs.getD i .none) c) → Off [100, a, kS] s.heap h' → Tb h' 100 pos100 q100 → P (.done (.ret .none)) { s with heap := h', toks := tk }) :
    wpAny (model prog w) A (ksk_end a false vs.toArray e1 (.ref kS) (xs.map Value.ref).toArray) P E s := by
  have hzs : ((xs.map Value.ref).toArray.zip vs.toArray).size = vs.length := by simp [hxs]
  unfold ksk_end
  dsimp only
  rw [if_neg (by simp)]
  have hlt : ¬ vs.toArray.size < 2 := by simp; lia
  rw [if_neg hlt, if_neg hlt]
  refine wpAny_bind (kas_kind (T := .ref C) (by simp; lia) (fun v hv => ?_) rfl (by simp) ?_)
  · obtain ⟨x, hx, rfl⟩ := List.mem_map.mp hv
    obtain ⟨j, hj⟩ := List.getElem?_of_mem hx
    obtain ⟨d, g⟩ := kx j x hj
    exact fun A' Q' E' s' k' q => tyK (k' _ _ g) q
  have hit : ∀ i, i < vs.length → ∃ x d, (kas_item ((xs.map Value.ref).toArray.zip vs.toArray) i) = (.ref x, vs.getD i .none) ∧ s.heap.get? x = some (iO C d (.bytes (ws i) (ts i))) := fun i hi => by
    have hx : i < xs.length := by lia
    obtain ⟨d, g⟩ := kx i xs[i] (List.getElem?_eq_getElem hx)
    refine ⟨xs[i], d, ?_, g⟩
    unfold kas_item
    rw [Array.getD_eq_getD_getElem?]
    have : ((xs.map Value.ref).toArray.zip vs.toArray)[i]? = some (Value.ref xs[i], vs.getD i .none) := by
      rw [Array.getElem?_zip_eq_some]
      simp [hx, hi]
    rw [this]; rfl
  have run : kasC (model prog w) A E sortRuns' (fun _ st' s' => ∃ p h' tk, s' = { s with heap := h', toks := tk } ∧ Row vs.length p ∧ Up (fun i => (num (ws i).toList : Int)) p vs.length ∧ arrOf st' = p.map (kas_item ((xs.map Value.ref).toArray.zip vs.toArray)) ∧ failedOf st' = none ∧ Off [100] s.heap h' ∧ Tb h' 100 pos100 q100)
      (kas_st oneType' ((xs.map Value.ref).toArray.zip vs.toArray) (List.toArray (List.range vs.length))) s := by
    refine kas_runs (G := fun p s' => Row vs.length p ∧ Up (fun i => (num (ws i).toList : Int)) p vs.length ∧ ∃ h' tk, s' = { s with heap := h', toks := tk } ∧ Off [100] s.heap h' ∧ Tb h' 100 pos100 q100) h2 h64 (fun p' st' s' _ e1 e2 hG => ?_) ?_
    · obtain ⟨r, u, h', tk, e, o, t⟩ := hG
      exact ⟨p', h', tk, e, r, u, e1, e2, o, t⟩
    · refine sort_ok (Inv := fun s' => ∃ h' tk, s' = { s with heap := h', toks := tk } ∧ Off [100] s.heap h' ∧ Tb h' 100 pos100 q100) ?_ h2 ⟨s.heap, s.toks, rfl, fun _ _ _ e => e, T⟩ (fun p' s' r i u => ⟨r, u, i⟩)
      rintro i j Cc s' hi hj ⟨h', tk, rfl, off, T'⟩ hq
      obtain ⟨x, d, ex, gx⟩ := hit i hi
      obtain ⟨y, d', ey, gy⟩ := hit j hj
      show wpAny _ _ _ _ _ _
      rw [ex, ey]
      exact askK ok hu hdp B ck hcm gx gy (by rw [hws i hi, hws j hj]) (by rw [hws i hi]; exact hwd) T off T' fun h'' tk'' off'' T'' => hq _ ⟨h'', tk'', rfl, off'', T''⟩
  have est : kas_st oneType' ((xs.map Value.ref).toArray.zip vs.toArray) (List.toArray (List.range vs.length)) = SortSt.mk' oneType' ((xs.map Value.ref).toArray.zip vs.toArray) #[] 7 none := by
    unfold kas_st
    have := kas_range ((xs.map Value.ref).toArray.zip vs.toArray)
    rw [hzs] at this; rw [this]
  rw [est] at run
  refine wpAny_bind (wpAny_mono run ?_ fun _ _ e => e)
  rintro ⟨⟨⟩, st'⟩ s' ⟨p, h', tk, rfl, r, u, earr, efail, off, T'⟩
  dsimp only at earr efail ⊢
  have gK' := off _ _ (by simpa using hk1) gK
  have gA' := off _ _ (by simpa using ha1) gA
  unfold ksk_tail
  dsimp only
  have s1 := Heap.SameBut.update h' kS (Obj.mapSeq fun _ => (#[] : Array Value))
  have na1 : (h'.update kS (Obj.mapSeq fun _ => (#[] : Array Value))).get? a = some (seqObj "list" #[] e1) := (s1.2 a hka.symm).trans gA'
  have s2 := Heap.SameBut.update (h'.update kS (Obj.mapSeq fun _ => (#[] : Array Value))) a (Obj.mapSeq fun _ => (arrOf st').map (·.2))
  have hc2 := get?_update_seq na1 fun _ => (arrOf st').map (·.2)
  have eout : (arrOf st').map (·.2) = p.map fun i => vs.getD i .none := by
    rw [earr, Array.map_map]
    apply Array.ext (by simp)
    intro i q1 q2
    simp only [Array.getElem_map, Function.comp]
    have hp : p[i]'(by simpa using q1) < vs.length := by
      have := r.lt i
      rw [Array.getD_eq_getD_getElem?, Array.getElem?_eq_getElem (by simpa using q1)] at this
      exact this
    obtain ⟨x, d, ex, _⟩ := hit _ hp
    rw [ex]
  refine wpAny_bind (listUpdate_at gK' rfl ?_ (by rw [sizeLine_eq]; simp; lia) (Nat.zero_le _))
  refine wpAny_bind (wpAny_letGo ?_)
  refine wpAny_bind (seqEpoch_at na1 rfl ?_)
  simp only [Bool.false_eq_true, if_false]
  refine wpAny_bind (listUpdate_at na1 rfl ?_ (Nat.zero_le _) (by rw [eout, Array.size_map, r.size, sizeLine_eq]; lia))
  rw [efail]
  simp only [bne_self_eq_false, Bool.false_eq_true, if_false]
  rw [eout] at hc2
  refine wpAny_pure (h _ _ p _ r u (by rw [eout]; exact hc2) ?_ ?_)
  · intro b o hb ee
    simp only [List.mem_cons, List.not_mem_nil, or_false, not_or] at hb
    exact (s2.2 b hb.2.1).trans ((s1.2 b hb.2.2).trans (off b o (by simpa using hb.1) ee))
  · exact (T'.seq s1 gK').seq s2 na1
end
end Mine
end
section
open PySem PySem.W PySem.W.X PySem.W.XRun PyProof.Rows PySem.Calls
set_option Elab.async false
set_option maxRecDepth 100000
namespace Mine
section
variable {h h' : Heap} {b : Addr} {xs : Array Value} {n : Nat}
theorem offS (k : Off [b] h h') (g : h.get? b = some (seqObj "list" xs n)) {x : Addr} {o : Obj} (e : h.get? x = some o) (hn : ∀ xs n, o.data ≠ .seq xs n) : h'.get? x = some o :=
  k x o (fun q => by rw [List.mem_singleton] at q; subst q; rw [g] at e; cases e; exact hn _ _ rfl) e
theorem recS (k : Off [b] h h') (g : h.get? b = some (seqObj "list" xs n)) {c : Value} {q : Str} (r : h.CodeRec c q) : h'.CodeRec c q := by
  obtain ⟨c₂, o₂, vs₂, t₂, e₂, g₂, d₂, v₂⟩ := r
  exact ⟨c₂, o₂, vs₂, t₂, e₂, offS k g g₂ (by intro xs n; rw [d₂]; intro q; cases q), d₂, v₂⟩
theorem Tb.offS {P : Addr} {pos : Pos} {q : Str} (T : Tb h P pos q) (k : Off [b] h h') (g : h.get? b = some (seqObj "list" xs n)) : Tb h' P pos q := by
  obtain ⟨ps, e, t, r⟩ := T
  exact ⟨ps, Mine.offS k g e (by intro xs n q; cases q), t, r.imp id fun ⟨c', x, z, y⟩ => ⟨c', x, z, recS k g y⟩⟩
theorem ClsK.offS {w : World} {h₀ : Heap} {C cm : Addr} (c : ClsK w h₀ h C cm) (k : Off [b] h h') (g : h.get? b = some (seqObj "list" xs n)) : ClsK w h₀ h' C cm := by
  obtain ⟨d, a1, a2, a3, a4, ⟨a5, r5⟩, ⟨a6, r6⟩, a8⟩ := c
  exact ⟨d, a1, Mine.offS k g a2 (by intro xs n q; cases q), Mine.offS k g a3 (by intro xs n q; cases q), Mine.offS k g a4 (by intro xs n q; cases q),
    ⟨Mine.offS k g a5 (by intro xs n q; cases q), recS k g r5⟩, ⟨Mine.offS k g a6 (by intro xs n q; cases q), recS k g r6⟩, a8⟩
theorem cellS {c : Addr} {v : Option Value} (x : h.IsCell c v) (k : Off [b] h h') (g : h.get? b = some (seqObj "list" xs n)) : h'.IsCell c v := by
  obtain ⟨o, e, d⟩ := x
  exact ⟨o, offS k g e (by intro xs n; rw [d]; intro q; cases q), d⟩
end
section
variable {w : World} {A : Around} {E : Value → Shared → Prop} {s : Shared} {h₀ : Heap} {C cm a kS : Addr} {vs : List Value} {ws : Nat → Array UInt8} {ts : Nat → Tok} {wd : Nat} {e1 : Nat} {P : PySem.Fin → Shared → Prop}
set_option maxHeartbeats 1000000 in
theorem restK (ok : AOk A) (hu : A.units ≤ 1000) (hdp : A.depth ≤ 350) (B : Bas w.params s.heap) (ck : ClsK w h₀ s.heap C cm) (hcm : s.heap.IsCell cm (some (.ref 105))) (T : Tb s.heap 100 pos100 q100)
    (h2 : 2 ≤ vs.length) (h64 : vs.length < 64) (hv : ∀ i, i < vs.length → vs[i]? = some (.bytes (ws i) (ts i))) (hws : ∀ i, i < vs.length → (ws i).size = wd) (hwd : 0 < wd) (hka : kS ≠ a) (hk1 : kS ≠ 100) (ha1 : a ≠ 100) (hkK : (K w.params).lookup kS = none)
    (gK : s.heap.get? kS = some (seqObj "list" #[] 0)) (gA : s.heap.get? a = some (seqObj "list" #[] e1))
    (h : ∀ h' tk p c, Row vs.length p → Up (fun i => (num (ws i).toList : Int)) p vs.length → h'.get? a = some (seqObj "list" (p.map fun i => vs.getD i .none) c) → Off [100, a, kS] s.heap h' → Tb h' 100 pos100 q100 → P (.done (.ret .none)) { s with heap := h', toks := tk }) :
    wpAny (model prog w) A (ksk_rest a (.ref C) false vs.toArray e1 (.ref kS)) P E s := by
  unfold ksk_rest
  refine wpAny_bind (wpAny_rule ?_)
  rw [← Array.forIn_toList]
  simp only [List.toList_toArray]
  refine wpAny_bind (ksk_fold (fun i s' => ∃ h' tk xs e, s' = { s with heap := h', toks := tk } ∧ Off [kS] s.heap h' ∧ xs.length = i ∧ h'.get? kS = some (seqObj "list" (xs.map Value.ref).toArray e) ∧ KeysAt h' C ws ts xs) vs 0 s
    ⟨s.heap, s.toks, [], 0, rfl, fun _ _ _ e => e, rfl, gK, fun j x e => by simp at e⟩ ?step ?done)
  case step =>
    rintro j x s' hx ⟨h', tk, xs, e, rfl, off, hl, gK', kx⟩
    simp only [Nat.zero_add] at hl ⊢
    have hj : j < vs.length := (List.getElem?_eq_some_iff.mp hx).1
    have ex : x = .bytes (ws j) (ts j) := by rw [hv j hj] at hx; exact (Option.some.inj hx).symm
    subst ex
    have B' : Bas w.params h' := B.offK off (fun b hb => .inr (by rw [List.mem_singleton] at hb; subst hb; exact hkK))
    refine wpAny_bind (wpAny_attempt (newK ok (by lia) (by lia) B' (ck.offS off gK) fun h'' tk'' x dx gx nx kp => ?_))
    dsimp only
    have gK'' := kp _ _ gK'
    have s1 := Heap.SameBut.update h'' kS (Obj.mapSeq (·.push (.ref x)))
    obtain ⟨ec, hc2⟩ : ∃ ec, (h''.update kS (Obj.mapSeq (·.push (.ref x)))).get? kS = some (seqObj "list" ((xs.map Value.ref).toArray.push (.ref x)) ec) := ⟨_, get?_update_seq gK'' (·.push (.ref x))⟩
    have hxk : x ≠ kS := ne_of_gone nx gK'
    refine wpAny_bind (listUpdate_at gK'' rfl ?_ (by rw [sizeLine_eq]; simp; lia) (by rw [sizeLine_eq]; simp; lia))
    refine wpAny_pure ⟨rfl, _, _, xs ++ [x], ec, rfl, fun b o hb ee => (s1.2 b (by simpa using hb)).trans (kp _ _ (off b o hb ee)), by simp [hl], ?_, fun i y hy => ?_⟩
    · rw [hc2]
      simp
    · by_cases hi : i < xs.length
      · rw [List.getElem?_append_left hi] at hy
        obtain ⟨d, g⟩ := kx i y hy
        exact ⟨d, (s1.2 _ (fun q => by subst q; rw [gK'] at g; cases g)).trans (kp _ _ g)⟩
      · have : i = xs.length := by
          have := (List.getElem?_eq_some_iff.mp hy).1
          simp at this; lia
        subst this
        simp at hy
        subst hy
        rw [hl]
        exact ⟨dx, (s1.2 _ hxk).trans gx⟩
  case done =>
    rintro s' ⟨h', tk, xs, e, rfl, off, hl, gK', kx⟩
    have B' : Bas w.params h' := B.offK off (fun b hb => .inr (by rw [List.mem_singleton] at hb; subst hb; exact hkK))
    refine wpAny_bind (listItems_at gK' rfl ?_)
    refine endK (s := { s with heap := h', toks := tk }) ok hu hdp B' (ck.offS off gK) (cellS hcm off gK) (T.offS off gK) h2 h64 (by lia) hws hwd hka hk1 ha1 gK' (off _ _ (by simpa using Ne.symm hka) gA) kx ?_
    intro h3 tk3 p c r u g off3 T3
    refine h h3 tk3 p c r u g (fun b o hb ee => ?_) T3
    simp only [List.mem_cons, List.not_mem_nil, or_false, not_or] at hb
    exact off3 b o (by simp [hb]) (off b o (by simp [hb]) ee)
set_option maxHeartbeats 1000000 in
theorem sortedK {l : Addr} {Q : Value → Shared → Prop} (ok : AOk A) (hu : A.units ≤ 990) (hdp : A.depth ≤ 350) (B : Bas w.params s.heap) (ck : ClsK w h₀ s.heap C cm) (hcm : s.heap.IsCell cm (some (.ref 105))) (T : Tb s.heap 100 pos100 q100)
    (hl : s.heap.IsList l vs.toArray) (h2 : 2 ≤ vs.length) (h64 : vs.length < 64) (hv : ∀ i, i < vs.length → vs[i]? = some (.bytes (ws i) (ts i))) (hws : ∀ i, i < vs.length → (ws i).size = wd) (hwd : 0 < wd)
    (h : ∀ D h' tk p c, Row vs.length p → Up (fun i => (num (ws i).toList : Int)) p vs.length → h'.get? D = some (seqObj "list" (p.map fun i => vs.getD i .none) c) → s.heap.get? D = none → Off [100] s.heap h' → Tb h' 100 pos100 q100 → Q (.ref D) { s with heap := h', toks := tk }) :
    wpAny (model prog w) A (call (.builtin "sorted") [.ref l] [(Str.ofString "key", .ref C)]) Q E s := by
  refine call_function_entry_kw kind_sorted plain_sorted entry_sorted (ksk_s1 _ _) ?_
  unfold Builtin.«sorted»
  refine wpAny_bind (m := checkCount "sorted" 1 1 _) (wpAny_pure ?_)
  refine wpAny_bind (collect_list hl ?_ (by rw [sizeLine_eq]; lia))
  refine wpAny_bind (wpAny_newList ?_ (by rw [sizeLine_eq]; lia))
  have hsz : ((s.heap.push (seqObj "list" #[] 0)).update s.heap.objs.size (Obj.mapSeq (· ++ vs.toArray))).objs.size = s.heap.objs.size + 1 := by
    rw [Heap.size_update, size_push']
  have hoL : (((s.heap.push (seqObj "list" #[] 0)).update s.heap.objs.size (Obj.mapSeq (· ++ vs.toArray))).push (seqObj "list" vs.toArray 0)).get? (s.heap.objs.size + 1) = some (seqObj "list" vs.toArray 0) := by
    rw [← hsz]; exact Heap.get?_push_size _ rfl
  have keep : Kp s.heap (((s.heap.push (seqObj "list" #[] 0)).update s.heap.objs.size (Obj.mapSeq (· ++ vs.toArray))).push (seqObj "list" vs.toArray 0)) := fun b o q => by
    have hlt : b < s.heap.objs.size := Heap.lt_size q
    rw [Heap.get?_push_ne _ _ _ (by rw [hsz]; exact Nat.ne_of_lt (Nat.lt_succ_of_lt hlt)), Heap.get?_update_ne _ _ _ _ (Nat.ne_of_lt hlt), Heap.get?_push_ne _ _ _ (Nat.ne_of_lt hlt)]
    exact q
  show wpAny _ _ _ _ _ { s with heap := ((s.heap.push (seqObj "list" #[] 0)).update s.heap.objs.size (Obj.mapSeq (· ++ vs.toArray))).push (seqObj "list" vs.toArray 0) }
  rw [hsz]
  have hz2 : (((s.heap.push (seqObj "list" #[] 0)).update s.heap.objs.size (Obj.mapSeq (· ++ vs.toArray))).push (seqObj "list" vs.toArray 0)).objs.size = s.heap.objs.size + 2 := by rw [size_push', hsz]
  revert hoL keep hz2
  generalize (((s.heap.push (seqObj "list" #[] 0)).update s.heap.objs.size (Obj.mapSeq (· ++ vs.toArray))).push (seqObj "list" vs.toArray 0)) = H
  generalize ha : s.heap.objs.size + 1 = a
  intro hoL keep hz2
  refine wpAny_bind (wpAny_holding (wpAny_call_entry_kw slot_list_sort ⟨_, hoL, rfl⟩ entry_list_sort ?body (ksk_l1 _ _)))
  case body =>
    show wpAny (model prog w) A.in1.in1 (Builtin.«list.sort» ⟨[.ref a], [(Str.ofString "key", .ref C)]⟩) _ _ _
    rw [ksk_t1]
    have ok2 : AOk A.in1.in1 := ⟨ok.handled, ok.depth, by show A.units + 1 + 1 ≤ _; lia⟩
    have gone : ∀ b, s.heap.objs.size ≤ b → s.heap.get? b = none := fun b hb => by
      cases q : s.heap.get? b with
      | none => rfl
      | some o => exact absurd (Nat.lt_of_lt_of_le (Heap.lt_size q) hb) (Nat.lt_irrefl _)
    have na : s.heap.get? a = none := gone a (by rw [← ha]; exact Nat.le_succ _)
    have h100 : (100 : Nat) < s.heap.objs.size := by obtain ⟨ps, e, _⟩ := T; exact Heap.lt_size e
    have ha1 : a ≠ 100 := by rw [← ha]; exact Nat.ne_of_gt (Nat.lt_succ_of_lt h100)
    have s1 := Heap.SameBut.update H a (Obj.mapSeq fun _ => (#[] : Array Value))
    obtain ⟨e1, ho1⟩ : ∃ e1, (H.update a (Obj.mapSeq fun _ => (#[] : Array Value))).get? a = some (seqObj "list" #[] e1) := ⟨_, get?_update_seq hoL fun _ => #[]⟩
    have hz3 : ((H.update a (Obj.mapSeq fun _ => (#[] : Array Value))).push (seqObj "tuple" vs.toArray 0)).objs.size = s.heap.objs.size + 3 := by rw [size_push', Heap.size_update, hz2]
    unfold ksk_tree
    refine wpAny_bind (listItems_at hoL rfl ?_)
    refine wpAny_bind (listUpdate_at hoL rfl ?_ (by rw [List.size_toArray, sizeLine_eq]; lia) (Nat.zero_le _))
    refine wpAny_bind (seqEpoch_at ho1 rfl ?_)
    refine wpAny_bind (wpAny_newTuple ?_ (by show vs.length ≤ _; rw [sizeLine_eq]; lia))
    refine wpAny_bind (wpAny_newList ?_ (Nat.zero_le _))
    refine wpAny_holding ?_
    have kp3 : Kp s.heap (((H.update a (Obj.mapSeq fun _ => (#[] : Array Value))).push (seqObj "tuple" vs.toArray 0)).push (seqObj "list" #[] 0)) := fun b o q => Heap.get?_push_of_some _ (Heap.get?_push_of_some _ ((s1.2 b (fun q' => by subst q'; rw [na] at q; cases q)).trans (keep b o q)))
    have gA : (((H.update a (Obj.mapSeq fun _ => (#[] : Array Value))).push (seqObj "tuple" vs.toArray 0)).push (seqObj "list" #[] 0)).get? a = some (seqObj "list" #[] e1) := Heap.get?_push_of_some _ (Heap.get?_push_of_some _ ho1)
    have gK : (((H.update a (Obj.mapSeq fun _ => (#[] : Array Value))).push (seqObj "tuple" vs.toArray 0)).push (seqObj "list" #[] 0)).get? (s.heap.objs.size + 3) = some (seqObj "list" #[] 0) := by rw [← hz3]; exact Heap.get?_push_size _ rfl
    show wpAny _ _ (ksk_rest a (.ref C) false vs.toArray e1 (.ref (((H.update a (Obj.mapSeq fun _ => (#[] : Array Value))).push (seqObj "tuple" vs.toArray 0)).objs.size))) _ _ { s with heap := ((H.update a (Obj.mapSeq fun _ => (#[] : Array Value))).push (seqObj "tuple" vs.toArray 0)).push (seqObj "list" #[] 0) }
    rw [hz3]
    have nk : s.heap.get? (s.heap.objs.size + 3) = none := gone _ (by lia)
    refine restK (s := { s with heap := ((H.update a (Obj.mapSeq fun _ => (#[] : Array Value))).push (seqObj "tuple" vs.toArray 0)).push (seqObj "list" #[] 0) }) ok2 (by show A.units + 1 + 1 ≤ _; lia) hdp (B.keeps kp3) (ck.kp kp3) (hcm.keeps kp3) (T.kp kp3) h2 h64 hv hws hwd
      (fun q => by have q' : @Eq Nat (s.heap.objs.size + 3) (s.heap.objs.size + 1) := q.trans ha.symm; lia) (Nat.ne_of_gt (Nat.lt_of_lt_of_le h100 (Nat.le_add_right _ _))) ha1 (kl3' B (Nat.le_add_right _ _)) gK gA ?_
    intro h' tk p c r u g off T'
    refine ⟨_, rfl, wpAny_pure ⟨_, rfl, h a h' tk p c r u g na (fun b o hb ee => off b o ?_ (kp3 b o ee)) T'⟩⟩
    simp only [List.mem_cons, List.not_mem_nil, or_false, not_or] at hb ⊢
    exact ⟨hb, (fun q => by rw [q, na] at ee; cases ee), (fun q => by rw [q, nk] at ee; cases ee)⟩
end
end Mine
end
section
open PySem PySem.W PySem.W.X PySem.W.XRun PyProof.Rows PySem.Calls
set_option Elab.async false
set_option maxRecDepth 100000
namespace Mine
noncomputable def fdL (P : Params) : FuncData := match (kO P 110).data with | .func fd => fd | _ => default
noncomputable def lB (P : Params) : List Stmt := match (fdL P).body with | .stmts b => b | _ => []
noncomputable def lS (P : Params) (i : Nat) : Stmt := (lB P).getD i (.Pass default)
noncomputable def lFast (x : Str) : Str × Const := (⟨#[102, 97, 115, 116]⟩, .str x)
noncomputable def lScope : Scope where
  kind := .function
  names := [(N.n_script, .local), (N.n_width, .cell), (N.n_numbers, .local), (N.n_tape, .local), (N.n_turned, .cell), (N.n_words, .local), (N.n_row, .local), (N.n_sum, .globalImplicit), (N.n_bytes, .globalImplicit), (N.n_byteswap, .globalImplicit),
    (N.n_range, .globalImplicit), (N.n_len, .globalImplicit), (N.n_sorted, .globalImplicit), (N.n_cmp_to_key, .globalImplicit), (N.n_law_turn, .globalImplicit)]
  isGenerator := false
  isCoroutine := false
  more := [lFast N.n_script, lFast N.n_width, lFast N.n_x, lFast N.n_numbers, lFast N.n_number, lFast N.n_place, lFast N.n_tape, lFast N.n_turned, lFast N.n_words, lFast N.n_word, lFast N.n_row]
noncomputable def lEnv (L : Addr) : Env where
  scope := lScope
  locals := L
  globals := mainGlobals
  cells := [(N.n_turned, L + 2), (N.n_width, L + 1)]
  qual := ⟨#[108, 97, 119, 46, 60, 108, 111, 99, 97, 108, 115, 62, 46]⟩
  func := some 110
  code := .ref 109
  frame := some L
  builtins := builtinsNs
theorem lEnv_eq (P : Params) (L : Addr) : callEnvC (fdL P) L 110 = lEnv L := by kernel_rfl
theorem lB_eq (P : Params) : (fdL P).body = .stmts [lS P 0, lS P 1, lS P 2, lS P 3, lS P 4, lS P 5, lS P 6, lS P 7] := by kernel_rfl
theorem Gc_funC {prog : Program} {w : World} {Γ : PySem.Ctx} {A : Around} {R : Result → Shared → Prop} {s : Shared} {fd : FuncData} {body : List Stmt}
    {a : Addr} {o : Obj} {args : List Value} {binds : List (Str × Value)} (hc : Γ.code = .call (.ref a) ⟨args, []⟩) (hΓ : Γ.Below A)
    (hroom : A.depth < recursionLimit) (ho : s.heap.get? a = some o) (hdata : o.data = .func fd) (hlim : s.heap.NoLimit) (hcd : s.heap.CodeRec fd.code fd.qualname)
    (hbody : fd.body = .stmts body) (hbind : bindArgs fd ⟨args, []⟩ = pure binds) (hclo : fd.closure = [])
    (hkind : ∀ x ∈ binds, fd.scope.names.lookup x.1 = some .local ∨ (fd.scope.names.lookup x.1 = some .cell ∧ ((cellsFrom (s.heap.objs.size + 1) fd.scope.names []).lookup x.1).isSome = true))
    (h : ∀ s₁, InCallC s (callEnvC fd s.heap.objs.size a).locals (bindL (callEnvC fd s.heap.objs.size a).kindOf binds fun _ => none) (callEnvC fd s.heap.objs.size a).cells
        (bindC (callEnvC fd s.heap.objs.size a).kindOf binds fun _ => none) s₁ →
      G (model prog w) (Γ.goto (.func body (callEnvC fd s.heap.objs.size a))) (execs body (callEnvC fd s.heap.objs.size a))
        (fun f s' => R (.ok (.ret (match f with | .ret v => v | _ => .none))) s') (fun _ _ => False) s₁)
    (hco : fd.scope.isCoroutine = false) (hgen : fd.scope.isGenerator = false) (hk : fd.scope.kind = .function) : Gc (model prog w) Γ R s := by
  refine Gc.tree ?_
  rw [hc]
  have hin : Γ.In A.in1 := by
    have := hΓ.in
    rw [hc] at this
    exact this
  refine G.of_any hin ?_
  show wpAny _ A.in1 (callAny (.ref a) _) _ _ s
  simp only [callAny]
  refine wpAny_bind (wpAny_load ho ?_)
  obtain ⟨c, oc, vs, tq, hcc, hoc, hdc, hq⟩ := hcd
  simp only [hdata, callFunction, hco, hgen]
  rw [hcc]
  dsimp only
  refine wpAny_bind (m := field (.ref c) 1) (wpAny_field hoc hdc hq (wpAny_bind (wpAny_pure ?_)))
  refine wpAny_bind ?_
  rw [hbind]
  refine wpAny_pure ?_
  rw [hclo, ← hcc]
  refine wpAny_bind (wpAny_newFunctionEnv_cells hk hkind fun env he s₁ x => ?_)
  subst he
  refine wpAny_bind (wpAny_enterFrame (hlim.keeps x.toInCall.keep) hroom ?_)
  rw [hbody]
  refine wpAny_pure ⟨rfl, ?_⟩
  show Gc _ (Γ.goto (.func body (callEnvC fd s.heap.objs.size a))) _ _
  refine Gc.tree ?_
  show G _ _ (do point; match ← (execs body _).onRaise (leaving _) with | .ret v => ret v | _ => ret .none) _ _ _
  refine G.bind (G.point ?_)
  refine G.bind (G.onRaise (G.mono (h s₁ x) (fun f s' hf => ?_) (fun _ _ e => e.elim)))
  cases f <;> exact G.pure hf
structure LSt (w : World) (h : Heap) (L : Addr) (bs : List (Str × Value)) (vw vt : Option Value) : Prop where
  F : Fm {} h L bs
  cw : h.IsCell (L + 1) vw
  ct : h.IsCell (L + 2) vt
  B : Bas w.params h
  T3 : Tb h 93 pos93 q93
  T0 : Tb h 100 pos100 q100
  hi : 111 < L
theorem Tb.off {h h' : Heap} {P : Addr} {pos : Pos} {q : Str} {ws : List Addr} (T : Tb h P pos q) (k : Off ws h h') (hP : P ∉ ws) (hw : ∀ c o vs, h.get? c = some o → o.data = .fields vs → c ∉ ws ∨ h'.get? c = some o) : Tb h' P pos q := by
  obtain ⟨ps, e, t, r⟩ := T
  refine ⟨ps, k _ _ hP e, t, r.imp id fun ⟨c, x, z, y⟩ => ⟨c, x, z, ?_⟩⟩
  obtain ⟨c₂, o₂, vs₂, t₂, e₂, g₂, d₂, v₂⟩ := y
  cases e₂
  exact ⟨_, o₂, vs₂, t₂, rfl, (hw _ _ _ g₂ d₂).elim (fun hn => k _ _ hn g₂) id, d₂, v₂⟩
theorem lawIn {w : World} {Γ : PySem.Ctx} {A : Around} {E : Value → Shared → Prop} {s : Shared} {Q : Value → Shared → Prop} (hΓ : Γ.In A) (ok : AOk A) (hdp : A.depth ≤ 450) (x : Cln Γ) (B : Bas w.params s.heap) (T3 : Tb s.heap 93 pos93 q93) (T0 : Tb s.heap 100 pos100 q100) (h111 : 111 < s.heap.objs.size)
    (h : ∀ Γ' A' h₁ tk, Γ'.In A' → (A'.handled = A.handled ∧ A'.depth = A.depth + 1 ∧ A'.units = A.units + 3) → Cln Γ' → LSt w h₁ s.heap.objs.size [(N.n_script, .ref 111)] none none → Kp s.heap h₁ →
      G (model prog w) Γ' (execs [lS w.params 0, lS w.params 1, lS w.params 2, lS w.params 3, lS w.params 4, lS w.params 5, lS w.params 6, lS w.params 7] (lEnv s.heap.objs.size)) (fun f s' => Q (match f with | .ret v => v | _ => .none) s') (fun _ _ => False) { s with heap := h₁, toks := tk }) :
    G (model prog w) Γ (call (.ref 110) [.ref 111]) Q E s := by
  refine G.call fun p => ?_
  have hen : (Γ.enter (.call (.ref 110) ⟨[.ref 111], []⟩) none p).Below A := hΓ.enter _ none p (by intro x; cases x)
  refine Gc_funC (A := A) (fd := fdL w.params) (binds := [(N.n_script, .ref 111)]) rfl hen (by show A.depth < 1000; omega) (B.at 110 rfl (by decide)) (by kernel_rfl) B.lim (B.code (c := 109) (by rfl) (by decide) (by exact rfl) (by exact rfl)) (lB_eq _) (by kernel_rfl) (by kernel_rfl)
    (by intro x hx; simp only [List.mem_singleton] at hx; subst hx; exact .inl (by kernel_rfl)) (fun s₁ X => ?_) (by kernel_rfl) (by kernel_rfl) (by kernel_rfl)
  have hL : (callEnvC (fdL w.params) s.heap.objs.size 110) = lEnv s.heap.objs.size := lEnv_eq _ _
  rw [hL] at X ⊢
  obtain ⟨h₁, tk₁, rfl, kp⟩ := X.done
  refine h _ _ h₁ tk₁ (hen.goto _).in ⟨rfl, rfl, rfl⟩ ((x.enter rfl).goto rfl) ⟨⟨_, ⟨X.toInCall.ns, fun b o e => by simp [Heap.get?] at e, Nat.zero_le _⟩, ?_⟩, X.cell N.n_width (s.heap.objs.size + 1) (by rfl), X.cell N.n_turned (s.heap.objs.size + 2) (by rfl), B.keeps kp, T3.kp kp, T0.kp kp, h111⟩ kp
  intro p hp
  rw [List.mem_singleton] at hp; subst hp
  rfl
section
variable {w : World} {h h' : Heap} {L : Addr} {bs : List (Str × Value)} {vw vt : Option Value}
theorem LSt.kp (x : LSt w h L bs vw vt) (k : Kp h h') : LSt w h' L bs vw vt := ⟨x.F.kp k, x.cw.keeps k, x.ct.keeps k, x.B.keeps k, x.T3.kp k, x.T0.kp k, x.hi⟩
end
end Mine
end
section
open PySem PySem.W PySem.W.X PySem.W.XRun PyProof.Rows PySem.Calls
set_option Elab.async false
set_option maxRecDepth 100000
namespace Mine
theorem mb_sum (P : Params) : mb P N.n_sum = some (.builtin "sum") := by kernel_rfl
theorem mg_sum (P : Params) : mg P N.n_sum = none := by kernel_rfl
noncomputable def wdI (ns : List Int) : Int := 2 + (ns.take 5).sum.fmod 3
theorem wdI_in (ns : List Int) : 2 ≤ wdI ns ∧ wdI ns ≤ 4 := by
  unfold wdI
  have h1 := Int.fmod_nonneg_of_pos (ns.take 5).sum (b := 3) (by decide)
  have h2 := Int.fmod_lt_of_pos (ns.take 5).sum (b := 3) (by decide)
  lia
theorem ints_take : ∀ (k : Nat) {vs : List Value} {ns : List Int}, IntsAre vs ns → IntsAre (vs.take k) (ns.take k)
  | 0, _, _, _ => by simpa using IntsAre.nil
  | _ + 1, _, _, .nil => by simpa using IntsAre.nil
  | k + 1, _, _, .cons n t h => by simpa using IntsAre.cons n t (ints_take k h)
theorem preSum_list : ∀ (l : List Int), preSum (fun i => l.getD i 0) l.length = l.sum := by
  intro l
  have key : ∀ (n : Nat), n ≤ l.length → preSum (fun i => l.getD i 0) n = (l.take n).sum := by
    intro n
    induction n with
    | zero => intro _; rfl
    | succ n ih =>
      intro hn
      show preSum _ n + l.getD n 0 = _
      rw [ih (by lia), List.take_add_one]
      have : l[n]? = some (l.getD n 0) := by simp [List.getD, List.getElem?_eq_getElem (show n < l.length by lia)]
      rw [this]; simp
  simpa using key l.length (Nat.le_refl _)
theorem kkeys (P : Params) : ((K P).all fun p => decide (p.1 ≤ 110)) = true := by kernel_rfl
theorem lookup_mem {β : Type} : ∀ {l : List (Addr × β)} {a : Addr} {o : β}, l.lookup a = some o → (a, o) ∈ l
  | (k, v) :: r, a, o, h => by
    rw [List.lookup_cons] at h
    cases hb : a == k with
    | true => rw [hb] at h; cases h; rw [beq_iff_eq.mp hb]; exact List.mem_cons_self
    | false => rw [hb] at h; exact List.mem_cons_of_mem _ (lookup_mem h)
theorem klook (P : Params) {a : Addr} (h : 110 < a) : (K P).lookup a = none := by
  cases q : (K P).lookup a with
  | none => rfl
  | some o =>
    have := List.all_eq_true.mp (kkeys P) (a, o) (lookup_mem q)
    exact absurd (of_decide_eq_true this) (Nat.not_le.mpr h)
section
variable {w : World} {A : Around} {E : Value → Shared → Prop} {s : Shared} {L : Addr}
theorem script5 {p1 p2 p3 p4 : Pos} {vs : List Value} {bs : List (Str × Value)} {vw vt : Option Value} {Q : Value → Shared → Prop} (x : LSt w s.heap L bs vw vt) (hs : (N.n_script, .ref 111) ∈ bs) (hl : s.heap.IsList 111 vs.toArray) (h63 : vs.length ≤ 100)
    (h : ∀ D h' tk, h'.get? D = some ⟨.type "list", none, .seq (vs.take 5).toArray 0, #[]⟩ → s.heap.get? D = none → Kp s.heap h' → Q (.ref D) { s with heap := h', toks := tk }) :
    wpAny (model prog w) A (eval (.Subscript (.Name N.n_script p1) (.Slice none (some (.Constant (.int 5) 0 p2)) none p3) p4) (lEnv L)) Q E s := by
  refine wpAny_Subscript_list_slice (ldF (hL := by rfl) (hk := by rfl) (hl := by rfl) (hd := by rfl) x.F hs ?_)
  rw [evalPart_none]
  refine wpAny_pure ?_
  rw [evalPart_some]
  refine wpAny_Constant_int ?_
  refine ⟨111, vs.toArray, none, some 5, rfl, hl, by rw [List.size_toArray, sizeLine_eq]; lia, .none, .int 5 _, ?_⟩
  have e : slicePick vs.toArray none (some 5) none = (vs.take 5).toArray := by
    have := slicePick_upto' vs.toArray 5
    simpa using this
  rw [e]
  have hz : s.heap.objs.size + 1 = (s.heap.push ⟨.type "slice", none, .fields #[.none, .int 5 s.toks, .none], #[]⟩).objs.size := by rw [size_push]
  refine h _ _ _ (by rw [hz]; exact Heap.get?_push_size _ rfl) (gone_ge (Nat.le_succ _)) fun b o e => kp_push _ _ _ _ (kp_push _ _ _ _ e)
theorem callSum {l : Addr} {vs : List Value} {ns : List Int} {Q : Value → Shared → Prop} (hh : A.handled = none) (hl : s.heap.IsList l vs.toArray) (hi : IntsAre vs ns)
    (h : ∀ h' tk t, Kp s.heap h' → Q (.int ns.sum t) { s with heap := h', toks := tk }) : wpAny (model prog w) A (call (.builtin "sum") [.ref l]) Q E s := by
  have hlt : l ≠ s.heap.objs.size := by obtain ⟨o, e, _⟩ := hl; exact Nat.ne_of_lt (Heap.lt_size e)
  have hlen := hi.length
  refine call_sum_walkG (wpAny_pyIter_list hl ⟨s.heap.objs.size, _, _, _, _, _, fun i => ns.getD i 0, rfl, Walks.list (A := A.in1) hh s.heap.objs.size l hlt vs.toArray, ⟨⟨_, Heap.get?_push_size _ rfl, rfl, rfl⟩, hl.push _⟩, ?_, ?_, ?_⟩)
  · intro b hb
    rw [size_push]
    simp only [List.mem_cons, List.not_mem_nil, or_false] at hb
    rcases hb with rfl | rfl
    · exact Nat.lt_succ_self _
    · obtain ⟨o, e, _⟩ := hl; exact Nat.lt_succ_of_lt (Heap.lt_size e)
  · intro i v hv
    obtain ⟨n, t, rfl, hn⟩ := IntsAre.at hi i v (by simpa using hv)
    exact ⟨t, by simp [List.getD, hn]⟩
  · intro h' tk t' k
    have e : preSum (fun i => ns.getD i 0) vs.toArray.size = ns.sum := by rw [List.size_toArray, hlen]; exact preSum_list ns
    rw [e]
    refine h _ _ _ fun b o q => k b o ?_ (kp_push _ _ _ _ q)
    simpa using Nat.ne_of_lt (Heap.lt_size q)
theorem s0 {vs : List Value} {ns : List Int} {Q : Flow → Shared → Prop} (ok : AOk A) (x : LSt w s.heap L [(N.n_script, .ref 111)] none none) (hl : s.heap.IsList 111 vs.toArray) (hi : IntsAre vs ns) (h63 : vs.length ≤ 100)
    (h : ∀ h' tk t, LSt w h' L [(N.n_script, .ref 111)] (some (.int (wdI ns) t)) none → Off [L + 1] s.heap h' → Q .next { s with heap := h', toks := tk }) :
    wpAny (model prog w) A (exec (lS w.params 0) (lEnv L)) Q E s := by
  refine wpAny_Assign_Name (wpAny_BinOp (wpAny_Constant_int (wpAny_BinOp (A_call1 (he := by rfl) (f := .builtin "sum") (lbui (hk := by rfl) (hl := by rfl) (hd := by rfl) x.B.g (mg_sum _) x.B.b (mb_sum _) ⟨rfl, ?_⟩))))) rfl
  refine script5 (s := { s with toks := _ }) x (by k_mem) hl h63 fun D h₁ tk₁ gD nD k₁ => ⟨calB, ?_⟩
  refine callSum ok.handled ⟨_, gD, rfl, _, rfl⟩ (ints_take 5 hi) fun h₂ tk₂ t₂ k₂ => ?_
  have kk : Kp s.heap h₂ := fun b o e => k₂ b o (k₁ b o e)
  refine wpAny_Constant_int (mod_int (by decide) (add_int ?_))
  refine wpAny_storeName_cell (c := L + 1) rfl rfl rfl (x.cw.keeps kk) fun h₃ c₃ k₃ => ?_
  have hne : L ≠ L + 1 := Nat.ne_of_lt (Nat.lt_succ_self _)
  have hne2 : L + 2 ≠ L + 1 := Nat.succ_ne_self _
  have off := Off.of_same k₃
  have hlow : ∀ b, b ≤ 111 → b ∉ [L + 1] := fun b hb hm => by
    rw [List.mem_singleton] at hm
    exact absurd (hm ▸ hb : L + 1 ≤ 111) (Nat.not_le.mpr (Nat.lt_succ_of_lt x.hi))
  have offs : Off [L + 1] s.heap h₃ := fun b o hb e => off b o hb (kk b o e)
  have hfl : ∀ c o vs, s.heap.get? c = some o → o.data = .fields vs → c ∉ [L + 1] ∨ h₃.get? c = some o := fun c o vs e d => .inl fun hm => by
    rw [List.mem_singleton] at hm
    subst hm
    obtain ⟨o', e', d'⟩ := x.cw
    rw [e] at e'; cases e'; rw [d] at d'; cases d'
  refine h h₃ _ _ ⟨(x.F.kp kk).off off (by simpa using hne) (fun b _ => by simp [Heap.get?]), c₃, (x.ct.keeps kk).sameBut k₃ hne2, ?_, x.T3.off offs (hlow _ (by decide)) hfl, x.T0.off offs (hlow _ (by decide)) hfl, x.hi⟩ offs
  refine x.B.offK offs fun b hb => .inr (klook _ ?_)
  rw [List.mem_singleton] at hb; subst hb
  exact Nat.lt_trans (Nat.lt_trans (by decide) x.hi) (Nat.lt_succ_self _)
end
end Mine
end
section
open PySem PySem.W PySem.W.X PySem.W.XRun PyProof.Rows PySem.Calls
set_option Elab.async false
set_option maxRecDepth 100000
namespace Mine
section
variable {w : World} {A : Around} {E : Value → Shared → Prop} {s : Shared} {L : Addr}
theorem Fm.nofields {h₀ h : Heap} {bs : List (Str × Value)} (F : Fm h₀ h L bs) {o : Obj} {vs : Array Value} (e : h.get? L = some o) (d : o.data = .fields vs) : False := by
  obtain ⟨m, ⟨⟨o', es, n, e', d', _⟩, _, _⟩, _⟩ := F
  rw [e] at e'; cases e'; rw [d] at d'; cases d'
theorem LSt.stL {h h' : Heap} {bs bs' : List (Str × Value)} {vw vt : Option Value} (x : LSt w h L bs vw vt) (k : Off [L] h h') (F' : Fm {} h' L bs') : LSt w h' L bs' vw vt := by
  have hlow : ∀ b, b ≤ 111 → b ∉ [L] := fun b hb hm => by
    rw [List.mem_singleton] at hm
    exact absurd (hm ▸ hb : L ≤ 111) (Nat.not_le.mpr x.hi)
  have hfl : ∀ c o vs, h.get? c = some o → o.data = .fields vs → c ∉ [L] ∨ h'.get? c = some o := fun c o vs e d => .inl fun hm => by
    rw [List.mem_singleton] at hm; subst hm; exact x.F.nofields e d
  have cell : ∀ {c : Addr} {v : Option Value}, c ≠ L → h.IsCell c v → h'.IsCell c v := fun n x => let ⟨o, e, d⟩ := x; ⟨o, k _ _ (by simpa using n) e, d⟩
  refine ⟨F', cell (Nat.succ_ne_self _) x.cw, cell (Nat.ne_of_gt (Nat.lt_add_of_pos_right (by decide))) x.ct, x.B.offK k fun b hb => .inr (klook _ ?_), x.T3.off k (hlow _ (by decide)) hfl, x.T0.off k (hlow _ (by decide)) hfl, x.hi⟩
  rw [List.mem_singleton] at hb; subst hb
  exact Nat.lt_trans (by decide) x.hi
theorem LSt.top {h : Heap} {bs : List (Str × Value)} {vw vt : Option Value} (x : LSt w h L bs vw vt) : L + 2 < h.objs.size := x.ct.lt
theorem list4 {k1 k2 k3 k4 : Int} {p1 p2 p3 p4 pos : Pos} {env : Env} {Q : Value → Shared → Prop} (h : ∀ D t1 t2 t3 t4 h' tk, h'.get? D = some ⟨.type "list", none, .seq [Value.int k1 t1, .int k2 t2, .int k3 t3, .int k4 t4].toArray 0, #[]⟩ → Kp s.heap h' → Q (.ref D) { s with heap := h', toks := tk }) :
    wpAny (model prog w) A (eval (.List [.Constant (.int k1) 0 p1, .Constant (.int k2) 0 p2, .Constant (.int k3) 0 p3, .Constant (.int k4) 0 p4] pos) env) Q E s := by
  refine wpAny_List_spliced ?_
  rw [show backTo pos (starEach [.Constant (.int k1) 0 p1, .Constant (.int k2) 0 p2, .Constant (.int k3) 0 p3, .Constant (.int k4) 0 p4] env) = [(false, eval (.Constant (.int k1) 0 p1) env), (false, eval (.Constant (.int k2) 0 p2) env), (false, eval (.Constant (.int k3) 0 p3) env), (false, eval (.Constant (.int k4) 0 p4) env)] from rfl]
  refine spliced_cons (wpAny_Constant_int ?_)
  refine spliced_cons (wpAny_Constant_int ?_)
  refine spliced_cons (wpAny_Constant_int ?_)
  refine spliced_cons (wpAny_Constant_int ?_)
  exact spliced_nil ⟨lns (n := 4) rfl (by lia), h _ _ _ _ _ _ _ (Heap.get?_push_size _ rfl) (kp_push _ _)⟩
noncomputable def drawn (ns : List Int) : List Int := ns.take 5 ++ [33188, 16877, 41471, 420]
noncomputable def numsOf (ns : List Int) : List Int := (drawn ns).map fun x => x.fmod (256 ^ (wdI ns).toNat)
theorem numsOf_len (ns : List Int) : 4 ≤ (numsOf ns).length ∧ (numsOf ns).length ≤ 9 := by
  unfold numsOf drawn
  simp only [List.length_map, List.length_append, List.length_take, List.length_cons, List.length_nil]
  lia
theorem ldW {scope : Scope} {C : Addr} {p : Pos} {x : Str} {c : Addr} {v : Value} {cl : List (Str × Addr)} {env : Env} {Q : Value → Shared → Prop} (hc : s.heap.IsCell c (some v)) (h : Q v s)
    (hk : scope.kind = .function) (hl : (compEnvC scope cl C env).kindOf x = some .cell) (hcl : cl.lookup x = some c) (hd : (x == ("__debug__" : Str)) = false) :
    wpAny (model prog w) A (eval (.Name x p) (compEnvC scope cl C env)) Q E s := wpAny_Name (wpAny_loadName_cell hk hl hcl hc h) hd
set_option maxHeartbeats 1000000 in
theorem s1 {vs : List Value} {ns : List Int} {tw : Tok} {Q : Flow → Shared → Prop} (ok : AOk A) (x : LSt w s.heap L [(N.n_script, .ref 111)] (some (.int (wdI ns) tw)) none) (hl : s.heap.IsList 111 vs.toArray) (hi : IntsAre vs ns) (h63 : vs.length ≤ 100)
    (h : ∀ D h' tk zs, LSt w h' L [(N.n_numbers, .ref D), (N.n_script, .ref 111)] (some (.int (wdI ns) tw)) none → h'.PlainList D zs.toArray → IntsAre zs (numsOf ns) → s.heap.get? D = none → Off [L] s.heap h' → Q .next { s with heap := h', toks := tk }) :
    wpAny (model prog w) A (exec (lS w.params 1) (lEnv L)) Q E s := by
  refine compA (hsw := by rfl) (hL := by rfl) (hk := by rfl) (hy := by rfl) (hs := by intro _; rfl) (hcell := by decide) (hkind := by rfl) (hnames := by decide) (hx := by rfl) (L := L) (cl := [(N.n_width, L + 1)]) [(N.n_script, .ref 111)] ?_ ?_
  · rfl
  refine wpAny_BinOp (script5 x (by k_mem) hl h63 fun D₁ h₁ tk₁ g₁ n₁ k₁ => list4 fun D₂ t1 t2 t3 t4 h₂ tk₂ g₂ k₂ => ?_)
  refine PySem.P.add_list (k₂ _ _ g₁) g₂ ?_ (by rw [List.size_toArray, List.size_toArray, sizeLine_eq, List.length_take]; show _ + 4 ≤ _; lia)
  dsimp only
  have hi2 : IntsAre (vs.take 5 ++ [Value.int 33188 t1, .int 16877 t2, .int 41471 t3, .int 420 t4]) (drawn ns) := (ints_take 5 hi).append (.cons _ _ (.cons _ _ (.cons _ _ (.cons _ _ .nil))))
  have e2 : (vs.take 5).toArray ++ [Value.int 33188 t1, .int 16877 t2, .int 41471 t3, .int 420 t4].toArray = (vs.take 5 ++ [Value.int 33188 t1, .int 16877 t2, .int 41471 t3, .int 420 t4]).toArray := by simp
  rw [e2]
  generalize vs.take 5 ++ [Value.int 33188 t1, .int 16877 t2, .int 41471 t3, .int 420 t4] = us at hi2 ⊢
  have kk : Kp s.heap h₂ := fun b o e => k₂ b o (k₁ b o e)
  clear e2 g₁ g₂ n₁ k₁ k₂
  have hlen : us.length = (numsOf ns).length := by rw [hi2.length]; simp [numsOf]
  have hl9 := numsOf_len ns
  generalize hal : h₂.objs.size = al
  have gal : (h₂.push ⟨.type "list", none, .seq us.toArray 0, #[]⟩).get? al = some ⟨.type "list", none, .seq us.toArray 0, #[]⟩ := by rw [← hal]; exact Heap.get?_push_size _ rfl
  have kk3 : Kp s.heap (h₂.push ⟨.type "list", none, .seq us.toArray 0, #[]⟩) := fun b o e => kp_push _ _ _ _ (kk b o e)
  have hsz : (h₂.push ⟨.type "list", none, .seq us.toArray 0, #[]⟩).objs.size = al + 1 := by rw [size_push, hal]
  have gone : ∀ b, al ≤ b → s.heap.get? b = none := fun b hb => by
    cases q : s.heap.get? b with
    | none => rfl
    | some o => exact absurd (Heap.lt_size (kk _ _ q)) (by rw [hal]; exact Nat.not_lt.mpr hb)
  generalize (h₂.push ⟨.type "list", none, .seq us.toArray 0, #[]⟩) = H at gal kk3 hsz ⊢
  refine wpAny_pyIter_list ⟨_, gal, rfl, _, rfl⟩ ?_
  rw [hsz]
  have x3 := (x.kp kk3).kp (kp_push H ⟨.type "list_iterator", none, .fields #[.ref al, .int 0 0], #[]⟩)
  have kk4 : Kp s.heap (H.push ⟨.type "list_iterator", none, .fields #[.ref al, .int 0 0], #[]⟩) := fun b o e => kp_push _ _ _ _ (kk3 b o e)
  have hLs : L + 2 < s.heap.objs.size := x.top
  have nI : ∀ b o, s.heap.get? b = some o → b ≠ al + 1 := fun b o e q => by rw [q, gone _ (Nat.le_succ _)] at e; cases e
  have hcw : L + 1 ≠ al + 1 := by obtain ⟨o, e, _⟩ := x.cw; exact nI _ _ e
  have hLI : L ≠ al + 1 := by obtain ⟨m, ⟨⟨o, _, _, e, _⟩, _, _⟩, _⟩ := x.F; exact nI _ _ e
  refine ⟨[], fun _ _ ys _ => IntsAre ys ((numsOf ns).take ys.length), us.length, [al + 1], [(N.n_script, .ref 111)], ⟨⟨al + 1, [al + 1, al], fun i v => us.toArray[i]? = some v, fun i h => h.IsListIter (al + 1) al i ∧ h.IsList al us.toArray, rfl, by simpa using Walks.list (prog := prog) (w := w) (A := A) ok.handled (al + 1) al (Nat.ne_of_lt (Nat.lt_succ_self _)) us.toArray, by lia, ⟨⟨_, by rw [← hsz]; exact Heap.get?_push_size _ rfl, rfl, rfl⟩, ⟨_, kp_push _ _ _ _ gal, rfl, _, rfl⟩⟩, ?_, by simp, ?_⟩, by simp, fun _ _ _ _ _ _ => IntsAre.nil, fun _ _ _ _ _ j _ => j⟩, x3.F, by simpa using hLI, rfl, ?_⟩
  · intro b hb
    rw [size_push, hsz]
    simp only [List.mem_cons, List.not_mem_nil, or_false] at hb
    rcases hb with rfl | rfl
    · exact Nat.lt_succ_self _
    · exact Nat.lt_succ_of_lt (Nat.lt_succ_self _)
  · intro C D i ys v s' E' nC nD hin hyl hP F st _ j off
    obtain ⟨n, t, rfl, hn⟩ := IntsAre.at hi2 i v (by simpa using hP)
    refine wpAny_BinOp (ldF (hL := by rfl) (hk := by rfl) (hl := by rfl) (hd := by rfl) F (by k_mem) (wpAny_BinOp (wpAny_Constant_int (ldW (hk := by rfl) (hl := by rfl) (hcl := by rfl) (hd := by rfl) (c := L + 1) (v := .int (wdI ns) tw) ?_ ?_))))
    · obtain ⟨o, e, d⟩ := x3.cw
      exact ⟨o, off _ _ (by simpa using hcw) e, d⟩
    have hw := wdI_in ns
    refine pow_int_small (by lia) (by lia) (by decide) (mod_int ?_ ?_)
    · have : (0 : Int) < 256 ^ (wdI ns).toNat := Int.pow_pos (by decide)
      lia
    · refine ⟨_, _, rfl, fun _ _ _ e => e, ?_⟩
      have e1 : (numsOf ns).take (ys ++ [Value.int (n.fmod (256 ^ (wdI ns).toNat)) (s'.toks + 1 + 1)]).length = (numsOf ns).take ys.length ++ [n.fmod (256 ^ (wdI ns).toNat)] := by
        rw [List.length_append, List.length_singleton, List.take_add_one, hyl]
        congr 1
        unfold numsOf
        rw [List.getElem?_map, hn]; rfl
      first
        | (rw [e1]; exact IntsAre.append j (.cons _ _ .nil))
        | (show IntsAre _ ((numsOf ns).take _)
           simp only [List.length_append, List.length_singleton] at e1 ⊢
           rw [e1]; exact IntsAre.append j (.cons _ _ .nil))
  · intro C D ys h₅ h' tk nD hyl g j _ kLC hLD F5 off
    rw [hyl, hlen, List.take_length] at j
    have offL : Off [L] s.heap h' := fun b o hb e => off b o (by
      simp only [List.mem_cons, List.append_nil, List.not_mem_nil, or_false, not_or] at hb ⊢
      exact ⟨hb, nI b o e⟩) (kk4 b o e)
    refine h D h' tk ys (x.stL offL F5) g j ?_ offL
    cases q : s.heap.get? D with
    | none => rfl
    | some o => rw [kk4 _ _ q] at nD; cases nD
end
end Mine
end
section
open PySem PySem.W PySem.W.X PySem.W.XRun PyProof.Rows PySem.Calls
set_option Elab.async false
set_option maxRecDepth 100000
namespace Mine
noncomputable def octs (nums : List Int) (wd : Nat) : List Int := nums.flatMap fun x => (List.range wd).map fun (p : Nat) => (x.fdiv (256 ^ p)).fmod 256
theorem octs_len (wd : Nat) : ∀ nums : List Int, (octs nums wd).length = nums.length * wd
  | [] => by simp [octs]
  | x :: r => by
    have ih := octs_len wd r
    unfold octs at ih ⊢
    rw [List.flatMap_cons, List.length_append, ih, List.length_map, List.length_range, List.length_cons, Nat.succ_mul, Nat.add_comm]
theorem octs_at (wd : Nat) : ∀ (nums : List Int) (i j : Nat) (x : Int), nums[i]? = some x → j < wd → (octs nums wd)[i * wd + j]? = some ((x.fdiv (256 ^ j)).fmod 256)
  | [], i, j, x, h, _ => by simp at h
  | y :: r, 0, j, x, h, hj => by
    simp at h; subst h
    unfold octs
    rw [List.flatMap_cons, Nat.zero_mul, Nat.zero_add, List.getElem?_append_left (by simpa using hj), List.getElem?_map, List.getElem?_range hj]; rfl
  | y :: r, i + 1, j, x, h, hj => by
    have ih := octs_at wd r i j x (by simpa using h) hj
    unfold octs at ih ⊢
    rw [List.flatMap_cons, Nat.succ_mul, List.getElem?_append_right (by simp; lia)]
    rw [List.length_map, List.length_range, show i * wd + wd + j - wd = i * wd + j by lia]
    exact ih
theorem octs_in (nums : List Int) (wd : Nat) : ∀ n ∈ octs nums wd, 0 ≤ n ∧ n < 256 := by
  intro n hn
  unfold octs at hn
  simp only [List.mem_flatMap, List.mem_map] at hn
  obtain ⟨x, _, p, _, rfl⟩ := hn
  exact ⟨Int.fmod_nonneg_of_pos _ (by decide), Int.fmod_lt_of_pos _ (by decide)⟩
noncomputable def wdN (ns : List Int) : Nat := (wdI ns).toNat
theorem wdN_in (ns : List Int) : 2 ≤ wdN ns ∧ wdN ns ≤ 4 := by have := wdI_in ns; unfold wdN; lia
theorem wdI_cast (ns : List Int) : wdI ns = (wdN ns : Int) := by have := wdI_in ns; unfold wdN; lia
section
variable {w : World} {A : Around} {E : Value → Shared → Prop} {s : Shared} {L : Addr}
set_option maxHeartbeats 1000000 in
theorem s2 {ns : List Int} {zs : List Value} {tw : Tok} {D : Addr} {vt : Option Value} {Q : Flow → Shared → Prop} (ok : AOk A) (x : LSt w s.heap L [(N.n_numbers, .ref D), (N.n_script, .ref 111)] (some (.int (wdI ns) tw)) vt) (gD : s.heap.PlainList D zs.toArray) (hz : IntsAre zs (numsOf ns))
    (h : ∀ h' tk t, LSt w h' L [(N.n_tape, .bytes (byteArr (octs (numsOf ns) (wdN ns))) t), (N.n_numbers, .ref D), (N.n_script, .ref 111)] (some (.int (wdI ns) tw)) vt → Off [L] s.heap h' → Q .next { s with heap := h', toks := tk }) :
    wpAny (model prog w) A (exec (lS w.params 2) (lEnv L)) Q E s := by
  have hw := wdN_in ns
  have hl9 := numsOf_len ns
  have hzl := hz.length
  refine wpAny_Assign_Name (A_call1 (he := by rfl) (f := .type "bytes") (lbui (hk := by rfl) (hl := by rfl) (hd := by rfl) x.B.g (mg_bytes _) x.B.b (mb_bytes _) ⟨rfl, comp2E (hs := by intro _; rfl) (hs2 := by intro _ _; rfl) (hxy := by decide) (hcell := by decide) (hkind := by rfl) (hnames := by decide) (hx := by rfl) (hy := by rfl) (cl := [(N.n_width, L + 1)]) rfl (ldF (hL := by rfl) (hk := by rfl) (hl := by rfl) (hd := by rfl) x.F (by k_mem) (wpAny_pyIter_list gD.isList ?_))⟩)) rfl
  have hlD : D < s.heap.objs.size := by obtain ⟨e, g⟩ := gD; exact Heap.lt_size g
  have hmul : zs.length * wdN ns ≤ 1000 := Nat.le_trans (Nat.mul_le_mul (show zs.length ≤ 9 by lia) hw.2) (by decide)
  generalize hI : s.heap.objs.size = I at hlD ⊢
  have kI : Kp s.heap (s.heap.push { cls := .type "list_iterator", data := .fields #[.ref D, .int 0 0] }) := kp_push _ _
  have nI : ∀ {b o}, s.heap.get? b = some o → b ≠ I := fun e q => absurd (Heap.lt_size e) (by rw [hI, q]; exact Nat.lt_irrefl _)
  refine ⟨I, [I, D], [I], zs.toArray.size, _, _, wdN ns, fun ys => IntsAre ys ((octs (numsOf ns) (wdN ns)).take ys.length), rfl, Walks.list (prog := prog) (w := w) (A := A) ok.handled I D (Nat.ne_of_lt hlD) zs.toArray, by simpa using hmul, ⟨⟨_, by rw [← hI]; exact Heap.get?_push_size _ rfl, rfl, rfl⟩, (gD.at fun o e => kI _ _ e).isList⟩, ?_, .nil, ?_, ?_⟩
  · intro b hb
    rw [size_push, hI]
    simp only [List.mem_cons, List.not_mem_nil, or_false] at hb
    rcases hb with rfl | rfl
    · exact Nat.lt_succ_self _
    · exact Nat.lt_succ_of_lt hlD
  · intro C i v s' E' nC hi hP F off
    obtain ⟨n, t, rfl, hn⟩ := IntsAre.at hz i v (by simpa using hP)
    have cell : ∀ {h : Heap}, Off [I] (s.heap.push { cls := .type "list_iterator", data := .fields #[.ref D, .int 0 0] }) h → h.IsCell (L + 1) (some (.int (wdI ns) tw)) := fun k => by
      obtain ⟨o, e, d⟩ := x.cw
      exact ⟨o, k _ _ (by simpa using nI e) (kI _ _ e), d⟩
    have B' : Bas w.params s'.heap := (x.B.keeps kI).offK off fun b hb => .inr (klook _ (by
      rw [List.mem_singleton] at hb; subst hb
      exact Nat.lt_trans (Nat.lt_trans (by decide) x.hi) (Nat.lt_of_le_of_lt (Nat.le_add_right _ _) (by rw [← hI]; exact x.top))))
    refine A_call1 (he := by rfl) (f := .type "range") (lbui (hk := by rfl) (hl := by rfl) (hd := by rfl) B'.g (mg_range _) B'.b (mb_range _) ⟨rfl, ldW (hk := by rfl) (hl := by rfl) (hcl := by rfl) (hd := by rfl) (c := L + 1) (cell off) ⟨calT, call_range_1 ?_⟩⟩)
    have hwi := wdI_in ns
    refine wpAny_pyIter_range (IsRange.new s'.heap 0 (wdI ns) 1 _ _ _) (small_one (by lia) (by lia) (by lia) (by lia)) ?_
    rw [show Builtin.Range.rangeSize 0 (wdI ns) 1 = (wdN ns : Int) by rw [rangeSize_one, wdI_cast]; split <;> lia]
    refine ⟨_, _, _, _, _, _, _, rfl, rfl, fun b o e => kp_push _ _ _ _ (kp_push _ _ _ _ e), Walks.range ok.handled _ 0 1 (wdN ns), ?_, ?_, ?_⟩
    · refine (Heap.get?_push_size _ rfl).trans ?_
      simp [rawInt]
    · intro b hb
      rw [List.mem_singleton] at hb; subst hb
      exact gone_ge (by rw [size_push]; exact Nat.le_succ _)
    · rintro j ys v2 s5 E'' hj ⟨tv, rfl⟩ jJ hyl F5 off5
      refine wpAny_BinOp (wpAny_BinOp (ldF (hL := by rfl) (hk := by rfl) (hl := by rfl) (hd := by rfl) F5 (by k_mem) (wpAny_BinOp (wpAny_Constant_int (ldF (hL := by rfl) (hk := by rfl) (hl := by rfl) (hd := by rfl) F5 (by k_mem) (pow_int_small (by lia) (by lia) (by decide) ?_))))))
      have ej : ((0 : Int) + (j : Int) * 1).toNat = j := by lia
      rw [ej]
      have hj3 : j ≤ 3 := by lia
      have hp : ((256 : Int) ^ j) ≠ 0 ∧ ((256 : Int) ^ j).natAbs < 1073741824 := by
        obtain rfl | rfl | rfl | rfl : j = 0 ∨ j = 1 ∨ j = 2 ∨ j = 3 := by lia
        all_goals decide
      refine floordiv_int hp.1 (wpAny_Constant_int (mod_int (by decide) ?_)) (.inl (PyProof.noPylong_small hp.2))
      refine ⟨_, _, rfl, fun _ _ e => e, ?_⟩
      have e1 : (octs (numsOf ns) (wdN ns)).take (ys.length + 1) = (octs (numsOf ns) (wdN ns)).take ys.length ++ [(n.fdiv (256 ^ j)).fmod 256] := by
        rw [List.take_add_one, hyl, octs_at _ _ i j n hn hj]; rfl
      show IntsAre (ys ++ [_]) (List.take (ys ++ [_]).length _)
      rw [List.length_append, List.length_singleton, e1]
      exact IntsAre.append jJ (.cons _ _ .nil)
  · intro D2 ys h' tk nD hyl g j off
    have hlen : ys.length = (octs (numsOf ns) (wdN ns)).length := by rw [hyl, octs_len, List.size_toArray, hzl]
    rw [hlen, List.take_length] at j
    refine ⟨calT, call_bytes_ints g.isList j (octs_in _ _) (by rw [hyl, sizeLine_eq, List.size_toArray]; lia) ok.handled fun h₂ t k k₂ => ?_⟩
    have kk : Kp s.heap h₂ := fun b o e => k₂ b o (off b o (by simpa using nI e) (kI _ _ e))
    have x2 := x.kp kk
    refine stF (hL := by rfl) (hk := by rfl) (hl := by rfl) [(N.n_tape, .bytes (byteArr (octs (numsOf ns) (wdN ns))) t), (N.n_numbers, .ref D), (N.n_script, .ref 111)] x2.F rfl fun h₃ F₃ k₃ => ?_
    exact h h₃ _ t (x2.stL (Off.of_same k₃) F₃) fun b o hb e => Off.of_same k₃ b o hb (kk b o e)
end
end Mine
end
section
open PySem PySem.W PySem.W.X PySem.W.XRun PyProof.Rows PySem.Calls
set_option Elab.async false
set_option maxRecDepth 100000
namespace Mine
theorem mg_byteswap (P : Params) : mg P N.n_byteswap = some (.ref 21) := by kernel_rfl
noncomputable def fdS (P : Params) : FuncData := match (kO P 21).data with | .func fd => fd | _ => default
theorem fdS_eq (P : Params) : (kO P 21).data = .func (fdS P) := by kernel_rfl
section
variable {w : World} {A : Around} {E : Value → Shared → Prop} {s : Shared} {L : Addr}
theorem ldC {x : Str} {p : Pos} {c : Addr} {v : Value} {Q : Value → Shared → Prop} (hc : s.heap.IsCell c (some v)) (h : Q v s)
    (hl : (lEnv L).kindOf x = some .cell) (hcl : (lEnv L).cells.lookup x = some c) (hd : (x == ("__debug__" : Str)) = false) :
    wpAny (model prog w) A (eval (.Name x p) (lEnv L)) Q E s := wpAny_Name (wpAny_loadName_cell rfl hl hcl hc h) hd
theorem gSwap {Γ : PySem.Ctx} {e1 : Expr} {p1 p2 pos : Pos} {bs : List (Str × Value)} {vt : Option Value} {b : Array UInt8} {tb tw : Tok} {m wd : Nat} {Q : Value → Shared → Prop} (hΓ : Γ.In A) (ok : AOk A) (hu : A.units ≤ 1000) (hdp : A.depth ≤ 400) (cl : Cln Γ) (x : LSt w s.heap L bs (some (.int (wd : Int) tw)) vt)
    (hb : b.size = m * wd) (hm : m ≤ 9) (hw1 : 2 ≤ wd) (hw2 : wd ≤ 4) (he : ∀ Q', Q' (.bytes b tb) s → wpAny (model prog w) A (eval e1 (lEnv L)) Q' E s)
    (h : ∀ h' tk t' (c : Array UInt8), Kp s.heap h' → c.size = m * wd → (∀ i < m, ∀ j < wd, c[i * wd + (wd - 1 - j)]? = b[i * wd + j]?) → Q (.bytes c t') { s with heap := h', toks := tk })
    (hst : starEach [e1, .Name N.n_width p2] (lEnv L) = [(false, eval e1 (lEnv L)), (false, eval (.Name N.n_width p2) (lEnv L))]) :
    G (model prog w) Γ (eval (.Call (.Name N.n_byteswap p1) [e1, .Name N.n_width p2] [] pos) (lEnv L)) Q E s := by
  refine G_CallName hΓ (lglo (hk := by rfl) (hl := by rfl) (hd := by rfl) x.B.g (mg_byteswap _) ?_)
  rw [hst]
  show G _ _ (callWith pos (.ref 21) [] [(false, eval e1 (lEnv L)), (false, eval (.Name N.n_width p2) (lEnv L))] []) _ _ _
  refine G_callWith_fun (A := A) (o := kO w.params 21) (fd := fdS w.params) hΓ (evalArgs_plain (spliced_cons (he _ ?_)))
  refine spliced_cons (ldC (hl := by rfl) (hcl := by rfl) (hd := by rfl) (c := L + 1) x.cw (spliced_nil ⟨⟨x.B.at 21 rfl (by decide), fdS_eq _⟩, ?_⟩))
  exact byteswap hΓ ok hu hdp cl x.B hb hm hw1 hw2 h
theorem s3 {Γ : PySem.Ctx} {bs : List (Str × Value)} {b : Array UInt8} {tb tw : Tok} {m wd : Nat} {Q : Flow → Shared → Prop} (hΓ : Γ.In A) (ok : AOk A) (hu : A.units ≤ 1000) (hdp : A.depth ≤ 400) (cl : Cln Γ) (x : LSt w s.heap L bs (some (.int (wd : Int) tw)) none) (hm1 : (N.n_tape, .bytes b tb) ∈ bs)
    (hb : b.size = m * wd) (hm : m ≤ 9) (hw1 : 2 ≤ wd) (hw2 : wd ≤ 4)
    (h : ∀ h' tk t' (c : Array UInt8), LSt w h' L bs (some (.int (wd : Int) tw)) (some (.bytes c t')) → c.size = m * wd → (∀ i < m, ∀ j < wd, c[i * wd + (wd - 1 - j)]? = b[i * wd + j]?) → Off [L + 2] s.heap h' → Q .next { s with heap := h', toks := tk }) :
    G (model prog w) Γ (exec (lS w.params 3) (lEnv L)) Q E s := by
  refine G_Assign_Name hΓ (gSwap (hst := by rfl) hΓ ok hu hdp cl x hb hm hw1 hw2 (fun Q' hq => ldF (hL := by rfl) (hk := by rfl) (hl := by rfl) (hd := by rfl) x.F hm1 hq) fun h₁ tk₁ t' c k₁ hc hrel => ?_) rfl
  have x1 := x.kp k₁
  refine wpAny_storeName_cell (c := L + 2) rfl rfl rfl x1.ct fun h₂ c₂ k₂ => ?_
  have off : Off [L + 2] s.heap h₂ := fun b o hb e => Off.of_same k₂ b o hb (k₁ b o e)
  have hlow : ∀ b, b ≤ 111 → b ∉ [L + 2] := fun b hb hm => by
    rw [List.mem_singleton] at hm
    exact absurd (hm ▸ hb : L + 2 ≤ 111) (Nat.not_le.mpr (Nat.lt_of_lt_of_le x.hi (Nat.le_add_right _ _)))
  have hfl : ∀ c o vs, s.heap.get? c = some o → o.data = .fields vs → c ∉ [L + 2] ∨ h₂.get? c = some o := fun c o vs e d => .inl fun hm => by
    rw [List.mem_singleton] at hm
    subst hm
    obtain ⟨o', e', d'⟩ := x.ct
    rw [e] at e'; cases e'; rw [d] at d'; cases d'
  refine h h₂ _ t' c ⟨x1.F.off (Off.of_same k₂) (by simpa using Nat.ne_of_lt (Nat.lt_add_of_pos_right (by decide))) (fun b _ => by simp [Heap.get?]), x1.cw.sameBut k₂ (Nat.ne_of_lt (Nat.lt_succ_self _)), c₂, x.B.offK off fun b hb => .inr (klook _ ?_), x.T3.off off (hlow _ (by decide)) hfl, x.T0.off off (hlow _ (by decide)) hfl, x.hi⟩ hc hrel off
  rw [List.mem_singleton] at hb; subst hb
  exact Nat.lt_trans (by decide) (Nat.lt_of_lt_of_le x.hi (Nat.le_add_right _ _))
end
end Mine
end
section
open PySem PySem.W PySem.W.X PySem.W.XRun PyProof.Rows PySem.Calls
set_option Elab.async false
set_option maxRecDepth 100000
namespace Mine
noncomputable def wordAt (c : Array UInt8) (wd i : Nat) : Array UInt8 := ((c.toList.drop (i * wd)).take wd).toArray
theorem wordAt_size {c : Array UInt8} {m wd i : Nat} (hc : c.size = m * wd) (hi : i < m) : (wordAt c wd i).size = wd := by
  unfold wordAt
  rw [List.size_toArray, List.length_take, List.length_drop, Array.length_toList, hc]
  have : (i + 1) * wd ≤ m * wd := Nat.mul_le_mul_right _ hi
  rw [Nat.succ_mul] at this
  lia
theorem picked_word {c : Array UInt8} {m wd i : Nat} (hc : c.size = m * wd) (hi : i < m) : KBy.picked c (some ((i * wd : Nat) : Int)) (some ((i * wd + wd : Nat) : Int)) = wordAt c wd i := by
  have : (i + 1) * wd ≤ m * wd := Nat.mul_le_mul_right _ hi
  rw [Nat.succ_mul] at this
  rw [KBc.picked_eq]
  simp only [Option.elim_some, clipAt_nat, hc]
  unfold wordAt
  rw [show min (i * wd) (m * wd) = i * wd by lia, show min (i * wd + wd) (m * wd) - i * wd = wd by lia]
section
variable {w : World} {A : Around} {E : Value → Shared → Prop} {s : Shared} {L : Addr}
set_option maxHeartbeats 1000000 in
theorem s4 {c : Array UInt8} {tc tw : Tok} {m wd : Nat} {tv nv sv : Value} {Q : Flow → Shared → Prop} (ok : AOk A) (x : LSt w s.heap L [(N.n_tape, tv), (N.n_numbers, nv), (N.n_script, sv)] (some (.int (wd : Int) tw)) (some (.bytes c tc)))
    (hc : c.size = m * wd) (hm : m ≤ 9) (hw1 : 2 ≤ wd) (hw2 : wd ≤ 4)
    (h : ∀ D h' tk (zs : List Value), LSt w h' L [(N.n_words, .ref D), (N.n_tape, tv), (N.n_numbers, nv), (N.n_script, sv)] (some (.int (wd : Int) tw)) (some (.bytes c tc)) → h'.PlainList D zs.toArray → zs.length = m → (∀ i < m, ∃ t, zs[i]? = some (.bytes (wordAt c wd i) t)) → s.heap.get? D = none → Off [L] s.heap h' → Q .next { s with heap := h', toks := tk }) :
    wpAny (model prog w) A (exec (lS w.params 4) (lEnv L)) Q E s := by
  have hsz : m * wd ≤ 36 := Nat.mul_le_mul hm hw2
  refine compA (hsw := by rfl) (hL := by rfl) (hk := by rfl) (hy := by rfl) (hs := by intro _; rfl) (hcell := by decide) (hkind := by rfl) (hnames := by decide) (hx := by rfl) (L := L) (cl := [(N.n_width, L + 1), (N.n_turned, L + 2)]) [(N.n_tape, tv), (N.n_numbers, nv), (N.n_script, sv)] ?_ ?_
  · rfl
  refine A_call3 (he := by rfl) (f := .type "range") (lbui (hk := by rfl) (hl := by rfl) (hd := by rfl) x.B.g (mg_range _) x.B.b (mb_range _) ⟨rfl, wpAny_Constant_int ?_⟩)
  refine A_call1 (he := by rfl) (f := .builtin "len") (lbui (hk := by rfl) (hl := by rfl) (hd := by rfl) x.B.g (mg_len' _) x.B.b (mb_len' _) ⟨rfl, ?_⟩)
  refine ldC (hl := by rfl) (hcl := by rfl) (hd := by rfl) (c := L + 2) x.ct ⟨calB, len_bytes (by lia) ?_⟩
  refine ldC (hl := by rfl) (hcl := by rfl) (hd := by rfl) (c := L + 1) x.cw ⟨calT, call_range_3 (by lia) ?_ (.inl (PyProof.noPylong_small (by lia)))⟩
  simp only [hc]
  refine wpAny_pyIter_range (IsRange.new s.heap 0 ((m * wd : Nat) : Int) wd _ _ _) (rsmall m wd hw1 hw2 hm) ?_
  rw [rs m wd hw1 hw2]
  generalize hR : s.heap.push { cls := .type "range", data := .fields #[.int 0 s.toks, .int ((m * wd : Nat) : Int) (s.toks + 1 + 1), .int (wd : Int) tw] } = R
  have kR : Kp s.heap R := by rw [← hR]; exact kp_push _ _
  have zR : s.heap.objs.size < R.objs.size := by rw [← hR, size_push]; exact Nat.lt_succ_self _
  dsimp only
  generalize hI : R.objs.size = I at zR ⊢
  have gI := Heap.get?_push_size R (o := { cls := .type "range_iterator", data := .fields #[rawInt 0, rawInt (m : Int), rawInt (wd : Int)] }) rfl
  rw [hI] at gI
  have kk : Kp s.heap (R.push { cls := .type "range_iterator", data := .fields #[rawInt 0, rawInt (m : Int), rawInt (wd : Int)] }) := fun b o e => kp_push _ _ _ _ (kR b o e)
  have zz : (R.push { cls := .type "range_iterator", data := .fields #[rawInt 0, rawInt (m : Int), rawInt (wd : Int)] }).objs.size = I + 1 := by rw [size_push, hI]
  generalize R.push { cls := .type "range_iterator", data := .fields #[rawInt 0, rawInt (m : Int), rawInt (wd : Int)] } = H at gI kk zz ⊢
  have nI : ∀ {b o}, s.heap.get? b = some o → b ≠ I := fun e q => absurd (Nat.lt_trans (Heap.lt_size e) zR) (by rw [q]; exact Nat.lt_irrefl _)
  have x3 := x.kp kk
  have hLI : L ≠ I := by obtain ⟨mm, ⟨⟨o, _, _, e, _⟩, _, _⟩, _⟩ := x.F; exact nI e
  refine ⟨[], fun _ _ ys _ => ∀ i < ys.length, ∃ t, ys[i]? = some (.bytes (wordAt c wd i) t), m, [I], [(N.n_tape, tv), (N.n_numbers, nv), (N.n_script, sv)], ⟨⟨I, [I], _, _, rfl, Walks.range (prog := prog) (w := w) (A := A) ok.handled I 0 wd m, by lia, ?_, ?_, by simp, ?_⟩, by simp, fun _ _ _ _ _ _ => by simp, fun _ _ _ _ _ j _ => j⟩, x3.F, by simpa using hLI, rfl, ?_⟩
  · refine gI.trans ?_
    simp [rawInt]
  · intro b hb
    rw [List.mem_singleton] at hb; subst hb
    rw [zz]; exact Nat.lt_succ_self _
  · rintro C D i ys v s' E' nC nD hin hyl ⟨t, rfl⟩ F st _ j off
    have cell : ∀ {a : Addr} {v : Value}, H.IsCell a (some v) → (∃ o, s.heap.get? a = some o) → s'.heap.IsCell a (some v) := fun ⟨o, e, d⟩ ⟨_, e'⟩ => ⟨o, off _ _ (by simpa using nI e') e, d⟩
    have c1 := cell x3.cw (let ⟨o, e, _⟩ := x.cw; ⟨o, e⟩)
    have c2 := cell x3.ct (let ⟨o, e, _⟩ := x.ct; ⟨o, e⟩)
    have ei : (0 : Int) + (i : Int) * (wd : Int) = ((i * wd : Nat) : Int) := by push_cast; lia
    rw [ei] at F
    refine wpAny_Subscript_Slice (T := "bytes") FB.slot_bytes_getitem.lookup (ldW (hk := by rfl) (hl := by rfl) (hcl := by rfl) (hd := by rfl) (c := L + 2) c2 (wpAny_Slice ?_))
    rw [evalPart_some, evalPart_some, evalPart_none]
    refine ldF (hL := by rfl) (hk := by rfl) (hl := by rfl) (hd := by rfl) F (by k_mem) (wpAny_BinOp (ldF (hL := by rfl) (hk := by rfl) (hl := by rfl) (hd := by rfl) F (by k_mem) (ldW (hk := by rfl) (hl := by rfl) (hcl := by rfl) (hd := by rfl) (c := L + 1) c1 (add_int (wpAny_pure ⟨typeIs_bytes _ _ _, ?_⟩)))))
    refine getItem_meets (typeIs_bytes _ _ _) (by decide) FB.slot_bytes_getitem FB.entry_bytes_getitem (FB.args_bytes_getitem_2 _ _) (KBc.meets_slice2 c tc _ (.int _ _) (.int _ _)) ⟨Heap.IsSliceOf.new _ _ _ _, Nat.le_trans (KBc.size_picked_le _ _ _) (by rw [sizeLine_eq]; lia), fun t' k => ?_⟩
    refine ⟨_, _, rfl, fun b o _ e => kp_push _ _ _ _ e, ?_⟩
    have ew : ((i * wd : Nat) : Int) + (wd : Int) = ((i * wd + wd : Nat) : Int) := by push_cast; rfl
    rw [ew, picked_word hc hin]
    intro i' hi'
    rw [List.length_append, List.length_singleton] at hi'
    by_cases hlt : i' < ys.length
    · rw [List.getElem?_append_left hlt]; exact j i' hlt
    · obtain rfl : i' = i := by lia
      rw [List.getElem?_append_right (by lia), hyl]
      simp
  · intro C D ys h₅ h' tk nD hyl g j _ kLC hLD F5 off
    have offL : Off [L] s.heap h' := fun b o hb e => off b o (by
      simp only [List.mem_cons, List.append_nil, List.not_mem_nil, or_false, not_or] at hb ⊢
      exact ⟨hb, nI e⟩) (kk b o e)
    refine h D h' tk ys (x.stL offL F5) g hyl (fun i hi => j i (by lia)) ?_ offL
    cases q : s.heap.get? D with
    | none => rfl
    | some o => rw [kk _ _ q] at nD; cases nD
end
end Mine
end
section
open PySem PySem.W PySem.W.X PySem.W.XRun PyProof.Rows PySem.Calls
set_option Elab.async false
set_option maxRecDepth 100000
namespace Mine
noncomputable def TbA (h : Heap) (P : Addr) (pos : Pos) (qual : Str) (ws : List Addr) : Prop :=
  P ∉ ws ∧ ∃ ps, h.get? P = some (tabObj ps) ∧ TriplesOk ps.toList ∧ (codeAmong pos ps.toList = none ∨ ∃ c, codeAmong pos ps.toList = some (.ref c) ∧ c ≠ P ∧ c ∉ ws ∧ h.CodeRec (.ref c) qual)
section
variable {h h' : Heap} {P : Addr} {pos : Pos} {q : Str} {ws : List Addr}
theorem TbA.tb (T : TbA h P pos q ws) : Tb h P pos q := let ⟨_, ps, e, t, r⟩ := T; ⟨ps, e, t, r.imp id fun ⟨c, a, b, _, d⟩ => ⟨c, a, b, d⟩⟩
theorem Tb.apart (T : Tb h P pos q) (hP : P ∉ ws) (hws : ∀ b ∈ ws, ¬ h.CodeRec (.ref b) q) : TbA h P pos q ws :=
  let ⟨ps, e, t, r⟩ := T; ⟨hP, ps, e, t, r.imp id fun ⟨c, a, b, d⟩ => ⟨c, a, b, fun hm => hws _ hm d, d⟩⟩
theorem TbA.off (T : TbA h P pos q ws) (k : Off ws h h') : TbA h' P pos q ws := by
  obtain ⟨hP, ps, e, t, r⟩ := T
  refine ⟨hP, ps, k _ _ hP e, t, r.imp id fun ⟨c, a, b, n, d⟩ => ⟨c, a, b, n, ?_⟩⟩
  obtain ⟨c₂, o₂, vs₂, t₂, e₂, g₂, d₂, v₂⟩ := d
  cases e₂
  exact ⟨_, o₂, vs₂, t₂, rfl, k _ _ n g₂, d₂, v₂⟩
theorem TbA.kp (T : TbA h P pos q ws) (k : Kp h h') : TbA h' P pos q ws := T.off fun b o _ e => k b o e
theorem noCode {b : Addr} {o : Obj} (e : h.get? b = some o) (d : ∀ vs x t, o.data = .fields vs → vs[1]? ≠ some (.str x t)) : ¬ h.CodeRec (.ref b) q := by
  rintro ⟨c, o', vs, t, e', g, d', v⟩
  cases e'
  rw [e] at g; cases g
  exact d vs q t d' v
theorem noCode_gone {b : Addr} (e : h.get? b = none) : ¬ h.CodeRec (.ref b) q := by
  rintro ⟨c, o', vs, t, e', g, d', v⟩
  cases e'
  rw [e] at g; cases g
theorem noCode_iter {I l : Addr} {i : Nat} (x : h.IsListIter I l i) : ¬ h.CodeRec (.ref I) q := by
  obtain ⟨o, e, _, d⟩ := x
  refine noCode e fun vs x t d' => ?_
  rw [d] at d'; cases d'
  simp
theorem noCode_list {D : Addr} {xs : Array Value} (x : h.PlainList D xs) : ¬ h.CodeRec (.ref D) q := by
  obtain ⟨n, e⟩ := x
  exact noCode e fun vs x t d' => by cases d'
theorem noCode_frame {h₀ : Heap} {C : Addr} {bs : List (Str × Value)} (F : Fm h₀ h C bs) : ¬ h.CodeRec (.ref C) q := by
  obtain ⟨m, ⟨⟨o, es, n, e, d, _⟩, _, _⟩, _⟩ := F
  exact noCode e fun vs x t d' => by rw [d] at d'; cases d'
theorem noCode_tab {ps : Array Value} (e : h.get? P = some (tabObj ps)) (t : TriplesOk ps.toList) : ¬ h.CodeRec (.ref P) q := by
  refine noCode e fun vs x tk d' => ?_
  cases d'
  exact fun e' => tri1 t (by rw [Array.getElem?_toList]; exact e')
end
section
variable {w : World} {A : Around} {E : Value → Shared → Prop} {s : Shared} {L : Addr}
theorem LSt.st93 {h h' : Heap} {bs bs' : List (Str × Value)} {vw vt : Option Value} (x : LSt w h L bs vw vt) (k : Off [L, 93] h h') (F' : Fm {} h' L bs') (T3 : Tb h' 93 pos93 q93) : LSt w h' L bs' vw vt := by
  have hi := x.hi
  have cell : ∀ {c : Addr} {v : Option Value}, c ≠ L → 111 < c → h.IsCell c v → h'.IsCell c v := fun n n2 x => let ⟨o, e, d⟩ := x; ⟨o, k _ _ (by
    simp only [List.mem_cons, List.not_mem_nil, or_false, not_or]
    exact ⟨n, Nat.ne_of_gt (Nat.lt_trans (by decide) n2)⟩) e, d⟩
  have h100 : (100 : Nat) ∉ [L, 93] := by
    simp only [List.mem_cons, List.not_mem_nil, or_false, not_or]
    exact ⟨fun q => by rw [← q] at hi; exact absurd hi (by decide), by decide⟩
  refine ⟨F', cell (Nat.succ_ne_self _) (Nat.lt_succ_of_lt hi) x.cw, cell (Nat.ne_of_gt (Nat.lt_add_of_pos_right (by decide))) (Nat.lt_add_right _ hi) x.ct, x.B.offK k fun b hb => ?_, T3, ?_, hi⟩
  · simp only [List.mem_cons, List.not_mem_nil, or_false] at hb
    rcases hb with rfl | rfl
    · exact .inr (klook _ (Nat.lt_trans (by decide) hi))
    · exact .inl (by decide)
  · have T0 : TbA h 100 pos100 q100 [L, 93] := x.T0.apart h100 fun b hb => by
      simp only [List.mem_cons, List.not_mem_nil, or_false] at hb
      rcases hb with rfl | rfl
      · exact noCode_frame x.F
      · obtain ⟨ps, e, t, _⟩ := x.T3; exact noCode_tab e t
    exact (T0.off k).tb
theorem mg_law_number (P : Params) : mg P N.n_law_number = some (.ref 98) := by kernel_rfl
noncomputable def fdN (P : Params) : FuncData := match (kO P 98).data with | .func fd => fd | _ => default
theorem fdN_eq (P : Params) : (kO P 98).data = .func (fdN P) := by kernel_rfl
noncomputable def numScope : Scope := ⟨.function, [(⟨#[46, 48]⟩, .local), (N.n_word, .local), (N.n_law_number, .globalImplicit)], false, false, []⟩
theorem csrcNum {p1 p2 p3 : Pos} {al : Addr} {zs : List Value} {ks : List Int} (ok : AOk A) (hu : A.units ≤ 1200) (hdp : A.depth ≤ 400) (B : Bas w.params s.heap) (T : Tb s.heap 93 pos93 q93) (hbig : 111 < s.heap.objs.size) (hl : s.heap.IsList al zs.toArray) (hlen : zs.length ≤ 1000)
    (hz : ∀ (i : Nat) (v : Value), zs[i]? = some v → ∃ b t, v = Value.bytes b t ∧ b.size ≤ 8 ∧ ks[i]? = some ((num b.toList : Nat) : Int)) :
    CSrc prog w A (lEnv L) (.Call (.Name N.n_law_number p1) [.Name N.n_word p2] [] p3) N.n_word numScope [] [93] (fun C D ys h => IntsAre ys (ks.take ys.length) ∧ TbA h 93 pos93 q93 [C, D, s.heap.objs.size]) zs.length (.ref s.heap.objs.size)
      { s with heap := s.heap.push { cls := .type "list_iterator", data := .fields #[.ref al, .int 0 0] } } [s.heap.objs.size] := by
  have hal : al < s.heap.objs.size := by obtain ⟨o, e, _⟩ := hl; exact Heap.lt_size e
  have h93 : 93 < s.heap.objs.size := Nat.lt_trans (by decide) hbig
  have kI : Kp s.heap (s.heap.push { cls := .type "list_iterator", data := .fields #[.ref al, .int 0 0] }) := kp_push _ _
  have hiI : (s.heap.push { cls := .type "list_iterator", data := .fields #[.ref al, .int 0 0] }).IsListIter s.heap.objs.size al 0 := ⟨_, Heap.get?_push_size _ rfl, rfl, rfl⟩
  have o93 : ∃ o, (s.heap.push { cls := .type "list_iterator", data := .fields #[.ref al, .int 0 0] }).get? 93 = some o := let ⟨ps, e, _⟩ := T; ⟨_, kI _ _ e⟩
  have ali : ∀ {b : Addr}, (∃ o, (s.heap.push { cls := .type "list_iterator", data := .fields #[.ref al, .int 0 0] }).get? b = some o) → ∀ {C : Addr}, (s.heap.push { cls := .type "list_iterator", data := .fields #[.ref al, .int 0 0] }).get? C = none → b ≠ C := fun ⟨o, e⟩ C n q => by subst q; rw [n] at e; cases e
  refine ⟨⟨s.heap.objs.size, [s.heap.objs.size, al], fun i v => zs.toArray[i]? = some v, fun i h => h.IsListIter s.heap.objs.size al i ∧ h.IsList al zs.toArray, rfl, by simpa using Walks.list (prog := prog) (w := w) (A := A) ok.handled s.heap.objs.size al (Nat.ne_of_lt hal) zs.toArray, hlen, ⟨hiI, hl.push _⟩, ?_, ?_, ?_⟩, ?_, ?_, ?_⟩
  · intro b hb
    rw [size_push]
    simp only [List.mem_cons, List.not_mem_nil, or_false] at hb
    rcases hb with rfl | rfl
    · exact Nat.lt_succ_self _
    · exact Nat.lt_succ_of_lt hal
  · intro b hb hm
    rw [List.mem_singleton] at hm
    simp only [List.mem_cons, List.not_mem_nil, or_false] at hb
    rcases hb with rfl | rfl
    · rw [hm] at h93; exact absurd h93 (Nat.lt_irrefl _)
    · obtain ⟨ps, e, _⟩ := T
      obtain ⟨o, e', _, n, d⟩ := hl
      rw [hm] at e'; rw [e] at e'; cases e'; cases d
  · intro C D i ys v s' E' nC nD hi hyl hP F st g ⟨jI, jT⟩ off
    obtain ⟨b, t, rfl, hb8, hk⟩ := hz i v (by simpa using hP)
    have B' : Bas w.params s'.heap := (B.keeps kI).offK off fun b hb => by
      simp only [List.cons_append, List.nil_append, List.mem_cons, List.not_mem_nil, or_false] at hb
      rcases hb with rfl | rfl
      · exact .inr (klook _ (Nat.lt_trans (by decide) hbig))
      · exact .inl (by decide)
    refine A_call1 (he := by rfl) (f := .ref 98) (lglo (hk := by rfl) (hl := by rfl) (hd := by rfl) B'.g (mg_law_number _) ⟨rfl, ldF (hL := by rfl) (hk := by rfl) (hl := by rfl) (hd := by rfl) F (by k_mem) ⟨calF (B'.at 98 rfl (by decide)) (fdN_eq _), ?_⟩⟩)
    refine lnum ok hu hdp B' hb8 jT.tb fun t' h₁ tk₁ k₁ T₁ => ?_
    refine ⟨h₁, tk₁, rfl, k₁, ?_, ?_⟩
    · rw [List.length_append, List.length_singleton, List.take_add_one, hyl, hk]
      rw [hyl] at jI
      exact IntsAre.append jI (.cons _ _ .nil)
    · refine T₁.apart jT.1 fun b hb => ?_
      have hn : b ∉ [93] := fun hm => jT.1 (by rw [List.mem_singleton] at hm; exact hm ▸ hb)
      simp only [List.mem_cons, List.not_mem_nil, or_false] at hb
      rcases hb with rfl | rfl | rfl
      · exact noCode_frame (F.off k₁ hn fun b _ => by simp [Heap.get?])
      · exact noCode_list (g.at fun o e => k₁ _ o hn e)
      · exact noCode_iter (st.1.at fun o e => k₁ _ o hn e)
  · intro b hb
    rw [List.mem_singleton] at hb; subst hb
    rw [size_push]; exact Nat.lt_succ_of_lt h93
  · intro C D h nC nD k
    refine ⟨.nil, TbA.kp ((T.kp kI).apart ?_ fun b hb => ?_) k⟩
    · simp only [List.mem_cons, List.not_mem_nil, or_false, not_or]
      exact ⟨ali o93 nC, ali o93 nD, Nat.ne_of_lt h93⟩
    · simp only [List.mem_cons, List.not_mem_nil, or_false] at hb
      rcases hb with rfl | rfl | rfl
      · exact noCode_gone nC
      · exact noCode_gone nD
      · exact noCode_iter hiI
  · rintro C D ys h h' ⟨j, jT⟩ k
    exact ⟨j, jT.off k⟩
end
end Mine
end
section
open PySem PySem.W PySem.W.X PySem.W.XRun PyProof.Rows PySem.Calls
set_option Elab.async false
set_option maxRecDepth 100000
namespace Mine
section
variable {M : Model} {Γ : PySem.Ctx} {A : Around} {E : Value → Shared → Prop} {s : Shared} {env : Env}
theorem G_If {test : Expr} {body orelse : List Stmt} {pos : Pos} {Q : Flow → Shared → Prop}
    (h : G M Γ (isTrue test env (eval test env)) (fun b s₂ => if b then G M Γ (execs body env) Q E s₂ else G M Γ (execs orelse env) Q E s₂) E s) : G M Γ (exec (.If test body orelse pos) env) Q E s := by
  rw [exec_If]
  refine G.bind (G.standAt (G.bind (G.mono h (fun b s₂ h₂ => ?_) fun _ _ e => e)))
  cases b <;> exact h₂
theorem G_or2 {a b : Expr} {pos : Pos} {whole : Sem Value} {Q : Bool → Shared → Prop}
    (h : G M Γ (isTrue a env (eval a env)) (fun c s' => if c then Q true s' else G M Γ (isTrue b env (eval b env)) (fun c s' => if c then Q true s' else Q false s') E s') E s) : G M Γ (isTrue (.BoolOp .Or [a, b] pos) env whole) Q E s := by
  show G M Γ (do
    match BoolOp.Or, ← isTrue a env (eval a env) with
    | .And, false => pure false
    | .Or, true => pure true
    | _, _ => allTrue .Or [b] env) Q E s
  refine G.bind (G.mono h (fun c s' h' => ?_) fun _ _ x => x)
  cases c with
  | true => exact G.pure h'
  | false =>
    show G M Γ (do
      match BoolOp.Or, ← isTrue b env (eval b env) with
      | .And, false => pure false
      | .Or, true => pure true
      | _, _ => allTrue .Or [] env) Q E s'
    refine G.bind (G.mono h' (fun c s' h' => ?_) fun _ _ x => x)
    cases c with
    | true => exact G.pure h'
    | false => exact G.pure h'
theorem G_cmp1 {l r : Expr} {op : CmpOp} {pos : Pos} {whole : Sem Value} {Q : Bool → Shared → Prop} (hΓ : Γ.In A)
    (h : G M Γ (eval l env) (fun a s₁ => wpAny M A (eval r env) (fun b s₂ => wpAny M A (compareOp op a b) (fun c s₃ => wpAny M A (truthy c) Q E s₃) E s₂) E s₁) E s)
    (hm : behindInMarks op r = false) : G M Γ (isTrue (.Compare l [op] [r] pos) env whole) Q E s := fun p => by
  simp only [isTrue_Compare1, markedBehindIn_of_false hm, Sem.wp_bind', Sem.wp_holding, Sem.wp_cmd_standAt, Sem.wp_operate]
  exact Sem.wp_mono M Γ _ (fun a p₁ s₁ h₁ => Sem.wp_mono M Γ _ (fun b _ s₂ h₂ => Sem.wp_mono M Γ _ (fun c p₃ s₃ h₃ => h₃ Γ p₃ hΓ)
    (fun _ _ _ h' => h') _ _ (h₂ Γ _ hΓ)) (fun _ _ _ h' => h') _ _ (h₁ Γ p₁ hΓ)) (fun _ _ _ h' => h') _ _ (h p)
end
theorem twice {b c d : Array UInt8} {m wd : Nat} (hb : b.size = m * wd) (hd : d.size = m * wd) (r1 : ∀ i < m, ∀ j < wd, c[i * wd + (wd - 1 - j)]? = b[i * wd + j]?) (r2 : ∀ i < m, ∀ j < wd, d[i * wd + (wd - 1 - j)]? = c[i * wd + j]?) : d = b := by
  refine Array.ext_getElem? fun k => ?_
  by_cases hk : k < m * wd
  · have hw : 0 < wd := by
      rcases Nat.eq_zero_or_pos wd with h | h
      · rw [h] at hk; simp at hk
      · exact h
    have hi : k / wd < m := by rw [Nat.div_lt_iff_lt_mul hw]; exact hk
    have hr : k % wd < wd := Nat.mod_lt _ hw
    have ek : k / wd * wd + k % wd = k := by rw [Nat.mul_comm]; exact Nat.div_add_mod k wd
    have e1 := r2 (k / wd) hi (wd - 1 - k % wd) (by omega)
    have e2 := r1 (k / wd) hi (k % wd) hr
    rw [show wd - 1 - (wd - 1 - k % wd) = k % wd by omega, ek] at e1
    rw [ek] at e2
    rw [e1, e2]
  · rw [Array.getElem?_eq_none (by omega), Array.getElem?_eq_none (by omega)]
section
variable {w : World} {A : Around} {E : Value → Shared → Prop} {s : Shared} {L : Addr}
set_option maxHeartbeats 1000000 in
theorem s5 {Γ : PySem.Ctx} {b c : Array UInt8} {tb tc tw : Tok} {m wd : Nat} {D Nn : Addr} {zs us : List Value} {nums : List Int} {sv : Value} {Q : Flow → Shared → Prop} (hΓ : Γ.In A) (ok : AOk A) (hu : A.units ≤ 1000) (hdp : A.depth ≤ 400) (cl : Cln Γ)
    (x : LSt w s.heap L [(N.n_words, .ref D), (N.n_tape, .bytes b tb), (N.n_numbers, .ref Nn), (N.n_script, sv)] (some (.int (wd : Int) tw)) (some (.bytes c tc)))
    (hb : b.size = m * wd) (hc : c.size = m * wd) (hm : m ≤ 9) (hw1 : 2 ≤ wd) (hw2 : wd ≤ 4) (r1 : ∀ i < m, ∀ j < wd, c[i * wd + (wd - 1 - j)]? = b[i * wd + j]?)
    (gD : s.heap.PlainList D zs.toArray) (hzl : zs.length = m) (hz : ∀ i < m, ∃ t, zs[i]? = some (.bytes (wordAt c wd i) t)) (gN : s.heap.PlainList Nn us.toArray) (hN : IntsAre us nums) (hk : nums = (List.range m).map fun i => ((num (wordAt c wd i).toList : Nat) : Int))
    (h : ∀ h' tk, LSt w h' L [(N.n_words, .ref D), (N.n_tape, .bytes b tb), (N.n_numbers, .ref Nn), (N.n_script, sv)] (some (.int (wd : Int) tw)) (some (.bytes c tc)) → Off [93] s.heap h' → Q .next { s with heap := h', toks := tk }) :
    G (model prog w) Γ (exec (lS w.params 5) (lEnv L)) Q E s := by
  refine G_If (G_or2 (G_cmp1 (hm := by with_unfolding_all rfl) hΓ (gSwap (hst := by rfl) hΓ ok hu hdp cl x hc hm hw1 hw2 (fun Q' hq => ldC (hl := by rfl) (hcl := by rfl) (hd := by rfl) (c := L + 2) x.ct hq) fun h₁ tk₁ t' d k₁ hd r2 => ?_)))
  obtain rfl : d = b := twice hb hd r1 r2
  have x1 := x.kp k₁
  refine ldF (hL := by rfl) (hk := by rfl) (hl := by rfl) (hd := by rfl) x1.F (by k_mem) (ne_bytes (wpAny_truthy_bool ?_))
  rw [show (d.toList != d.toList) = false by simp]
  rw [if_neg (by decide)]
  have gD1 := gD.at (k₁ D)
  have gN1 := gN.at (k₁ Nn)
  have hbig : 111 < h₁.objs.size := Nat.lt_trans x.hi (Nat.lt_trans (Nat.lt_add_of_pos_right (by decide)) x1.top)
  refine G.of_any hΓ (wpAny_isTrue_Compare1 (compE (hs := by intro _; rfl) (hcell := by decide) (hkind := by rfl) (hnames := by decide) (hx := by rfl) (cl := []) rfl (ldF (hL := by rfl) (hk := by rfl) (hl := by rfl) (hd := by rfl) x1.F (by k_mem) (wpAny_pyIter_list gD1.isList ?_))))
  refine ⟨_, _, _, _, csrcNum (s := { s with heap := h₁, toks := tk₁ }) (ks := nums) ok (by omega) hdp x1.B x1.T3 hbig gD1.isList (by omega) ?_, ?_⟩
  · intro i v hv
    have hi : i < m := by rw [← hzl]; exact (List.getElem?_eq_some_iff.mp hv).1
    obtain ⟨t, e⟩ := hz i hi
    rw [e] at hv; cases hv
    refine ⟨_, t, rfl, ?_, ?_⟩
    · rw [wordAt_size hc hi]; omega
    · rw [hk, List.getElem?_map, List.getElem?_range hi]; rfl
  intro C D2 ys h₂ tk₂ nD hyl g ⟨jI, jT⟩ off
  have hnl : nums.length = m := by rw [hk]; simp
  rw [hyl, hzl, ← hnl, List.take_length] at jI
  have off93 : Off [93] h₁ h₂ := fun b o hb e => off b o (by
    simp only [List.cons_append, List.nil_append, List.mem_cons, List.not_mem_nil, or_false, not_or] at hb ⊢
    exact ⟨Nat.ne_of_lt (Heap.lt_size e), hb⟩) (kp_push _ _ _ _ e)
  have hL93 : L ≠ 93 := Nat.ne_of_gt (Nat.lt_trans (by decide) x.hi)
  have x2 := x1.st93 (fun b o hb e => off93 b o (fun hm => hb (by rw [List.mem_singleton] at hm; simp [hm])) e) (x1.F.off off93 (by simpa using hL93) fun b _ => by simp [Heap.get?]) jT.tb
  have nN93 : Nn ≠ 93 := by
    rintro rfl
    obtain ⟨n, e⟩ := gN1
    obtain ⟨ps, e', _⟩ := x1.T3
    rw [e] at e'; cases e'
  refine ldF (hL := by rfl) (hk := by rfl) (hl := by rfl) (hd := by rfl) x2.F (by k_mem) (ke_ne_ints g.isList ((gN1.at fun o e => off93 Nn o (by simpa using nN93) e).isList) jI hN (by show A.units + 64 < 9900; omega) (wpAny_truthy_bool ?_))
  rw [decide_eq_true rfl]
  show if false = true then _ else _
  rw [if_neg (by decide), if_neg (by decide)]
  refine G.pure ?_
  exact h h₂ _ x2 fun b o hb e => off93 b o hb (k₁ b o e)
end
end Mine
end
section
open PySem PySem.W PySem.W.X PySem.W.XRun PyProof.Rows PySem.Calls
set_option Elab.async false
set_option maxRecDepth 100000
namespace Mine
theorem mb_sorted (P : Params) : mb P N.n_sorted = some (.builtin "sorted") := by kernel_rfl
theorem mg_sorted (P : Params) : mg P N.n_sorted = none := by kernel_rfl
theorem mg_cmp_to_key (P : Params) : mg P N.n_cmp_to_key = some (.ref 28) := by kernel_rfl
theorem mg_law_turn (P : Params) : mg P N.n_law_turn = some (.ref 105) := by kernel_rfl
theorem fdK_eq' (P : Params) : (kO P 28).data = .func (fdK P) := by kernel_rfl
theorem TbA.more {h : Heap} {P : Addr} {pos : Pos} {q : Str} {ws ws' : List Addr} (T : TbA h P pos q ws) (hws : ∀ b ∈ ws', b ∈ ws ∨ (b ≠ P ∧ ¬ h.CodeRec (.ref b) q)) : TbA h P pos q ws' := by
  obtain ⟨hP, ps, e, t, r⟩ := T
  exact ⟨fun hm => (hws _ hm).elim hP fun z => z.1 rfl, ps, e, t, r.imp id fun ⟨c, a, b, n, d⟩ => ⟨c, a, b, fun hm => (hws _ hm).elim n fun z => z.2 d, d⟩⟩
section
variable {w : World} {A : Around} {E : Value → Shared → Prop} {s : Shared} {L : Addr}
theorem LSt.tab {h h' : Heap} {bs : List (Str × Value)} {vw vt : Option Value} {P : Addr} (x : LSt w h L bs vw vt) (k : Off [P] h h') (hP : P ∈ tabs) (T3 : Tb h' 93 pos93 q93) (T0 : Tb h' 100 pos100 q100) : LSt w h' L bs vw vt := by
  have hlt : P ≤ 111 := by
    simp only [tabs, List.mem_cons, List.not_mem_nil, or_false] at hP
    rcases hP with rfl | rfl | rfl <;> decide
  have hn : ∀ {c : Addr}, 111 < c → c ∉ [P] := fun hc hm => by
    rw [List.mem_singleton] at hm
    exact absurd (hm ▸ hc : 111 < P) (Nat.not_lt.mpr hlt)
  have cell : ∀ {c : Addr} {v : Option Value}, 111 < c → h.IsCell c v → h'.IsCell c v := fun n x => let ⟨o, e, d⟩ := x; ⟨o, k _ _ (hn n) e, d⟩
  exact ⟨x.F.off k (hn x.hi) (fun b _ => by simp [Heap.get?]), cell (Nat.lt_succ_of_lt x.hi) x.cw, cell (Nat.lt_add_right _ x.hi) x.ct, x.B.offK k fun b hb => .inl (by rw [List.mem_singleton] at hb; exact hb ▸ hP), T3, T0, x.hi⟩
theorem A_callK {x : Str} {px pos : Pos} {e : Expr} {kws : List Keyword} {id : String} {env : Env} {M : Model} {Q : Value → Shared → Prop}
    (h : wpAny M A (eval (.Name x px) env) (fun f s₁ => f = .builtin id ∧ wpAny M A (spliced (backTo pos (starEach [e] env))) (fun vs s₁ => wpAny M A (evalAll ((backToKw pos (keywordEach kws env)).map (·.2)))
      (fun kvs s₂ => wpAny M A (call (.builtin id) vs (((backToKw pos (keywordEach kws env)).filterMap (·.1)).zip kvs)) Q E s₂) E s₁) E s₁) E s)
    (he : backTo pos (starEach [e] env) = (false, eval e env) :: backTo pos (starEach [] env))
    (hplain : (backTo pos (starEach [e] env)).any (·.1) = false)
    (hall : (backToKw pos (keywordEach kws env)).all (·.1.isSome) = true)
    (hkw : (backToKw pos (keywordEach kws env)).any (·.1.isNone) = false) : wpAny M A (eval (.Call (.Name x px) [e] kws pos) env) Q E s := by
  show wpAny M A (do callWith pos (← eval (.Name x px) env) [] (backTo pos (starEach [e] env)) (backToKw pos (keywordEach kws env))) Q E s
  refine wpAny_bind (wpAny_mono h (fun f s₁ h₁ => ?_) fun _ _ e => e)
  obtain ⟨rfl, h₁⟩ := h₁
  exact callWith_kw h₁ he hplain hall hkw
set_option maxHeartbeats 1000000 in
theorem s6 {c : Array UInt8} {tc tw : Tok} {m wd : Nat} {D : Addr} {zs : List Value} {tv nv sv : Value} {Q : Flow → Shared → Prop} (ok : AOk A) (hu : A.units ≤ 990) (hdp : A.depth ≤ 350)
    (x : LSt w s.heap L [(N.n_words, .ref D), (N.n_tape, tv), (N.n_numbers, nv), (N.n_script, sv)] (some (.int (wd : Int) tw)) (some (.bytes c tc))) (h23 : s.heap.get? 23 = some (tabObj #[]))
    (hc : c.size = m * wd) (hm0 : 2 ≤ m) (hm : m ≤ 9) (hw1 : 2 ≤ wd) (hw2 : wd ≤ 4) (gD : s.heap.PlainList D zs.toArray) (hzl : zs.length = m) (hz : ∀ i < m, ∃ t, zs[i]? = some (.bytes (wordAt c wd i) t))
    (h : ∀ R h' tk (ys : List Value) (p : Array Nat), LSt w h' L [(N.n_row, .ref R), (N.n_words, .ref D), (N.n_tape, tv), (N.n_numbers, nv), (N.n_script, sv)] (some (.int (wd : Int) tw)) (some (.bytes c tc)) → h'.PlainList R ys.toArray →
      IntsAre ys (p.toList.map fun i => ((num (wordAt c wd i).toList : Nat) : Int)) → Row m p → Up (fun i => ((num (wordAt c wd i).toList : Nat) : Int)) p m → (∃ ps, h'.get? 23 = some (tabObj ps)) → Off [L, 23, 93, 100] s.heap h' → Q .next { s with heap := h', toks := tk }) :
    wpAny (model prog w) A (exec (lS w.params 6) (lEnv L)) Q E s := by
  obtain ⟨ts, hv⟩ : ∃ ts : Nat → Tok, ∀ i < m, zs[i]? = some (.bytes (wordAt c wd i) (ts i)) :=
    ⟨fun i => if hi : i < m then (hz i hi).choose else 0, fun i hi => by dsimp only; rw [dif_pos hi]; exact (hz i hi).choose_spec⟩
  have hL93 : L ≠ 93 := Nat.ne_of_gt (Nat.lt_trans (by decide) x.hi)
  have hL23 : L ≠ 23 := Nat.ne_of_gt (Nat.lt_trans (by decide) x.hi)
  have hL100 : L ≠ 100 := Nat.ne_of_gt (Nat.lt_trans (by decide) x.hi)
  refine compA (hsw := by rfl) (hL := by rfl) (hk := by rfl) (hy := by rfl) (hs := by intro _; rfl) (hcell := by decide) (hkind := by rfl) (hnames := by decide) (hx := by rfl) (L := L) (cl := []) [(N.n_words, .ref D), (N.n_tape, tv), (N.n_numbers, nv), (N.n_script, sv)] rfl ?_
  refine A_callK (he := by rfl) (hplain := by rfl) (hall := by rfl) (hkw := by rfl) (id := "sorted") (lbui (hk := by rfl) (hl := by rfl) (hd := by rfl) x.B.g (mg_sorted _) x.B.b (mb_sorted _) ⟨rfl, spliced_cons (ldF (hL := by rfl) (hk := by rfl) (hl := by rfl) (hd := by rfl) x.F (by k_mem) (spliced_nil (kws_cons ?_)))⟩)
  refine A_call1 (he := by rfl) (f := .ref 28) (lglo (hk := by rfl) (hl := by rfl) (hd := by rfl) x.B.g (mg_cmp_to_key _) ⟨rfl, lglo (hk := by rfl) (hl := by rfl) (hd := by rfl) x.B.g (mg_law_turn _) ⟨calF (x.B.at 28 rfl (by decide)) (fdK_eq' _), ?_⟩⟩)
  refine cmpkey ok (by omega) (by omega) x.B h23 (fun a ha => ?_) fun C cm h₁ tk₁ ck hcm off1 B1 p23 => ?_
  · simp only [tabs, List.mem_cons, List.not_mem_nil, or_false] at ha
    rcases ha with rfl | rfl | rfl
    · exact ⟨_, h23⟩
    · obtain ⟨ps, e, _⟩ := x.T3; exact ⟨_, e⟩
    · obtain ⟨ps, e, _⟩ := x.T0; exact ⟨_, e⟩
  have nc23 : ∀ {q}, ∀ b ∈ [23], ¬ s.heap.CodeRec (.ref b) q := fun b hb => by
    rw [List.mem_singleton] at hb; subst hb
    exact noCode_tab h23 trivial
  have x1 : LSt w h₁ L _ _ _ := x.tab off1 (by decide) ((x.T3.apart (by decide) nc23).off off1).tb ((x.T0.apart (by decide) nc23).off off1).tb
  have nD23 : D ≠ 23 := by rintro rfl; obtain ⟨n, e⟩ := gD; rw [h23] at e; cases e
  have gD1 := gD.at fun o e => off1 D o (by simpa using nD23) e
  refine kws_nil ?_
  show wpAny _ _ (call (.builtin "sorted") [.ref D] [(Str.ofString "key", .ref C)]) _ _ _
  refine sortedK (s := { s with heap := h₁, toks := tk₁ }) (wd := wd) (ws := wordAt c wd) (ts := ts) ok hu hdp x1.B ck hcm x1.T0 gD1.isList (by omega) (by omega) (fun i hi => hv i (by omega)) (fun i hi => wordAt_size hc (by omega)) (by omega) ?_
  intro Dd h₂ tk₂ p cc row up gDd nDd off2 T2
  dsimp only at nDd off2
  have nc100 : ∀ {q}, ∀ b ∈ [100], ¬ h₁.CodeRec (.ref b) q := fun b hb => by
    rw [List.mem_singleton] at hb; subst hb
    obtain ⟨ps, e, t, _⟩ := x1.T0; exact noCode_tab e t
  have x2 : LSt w h₂ L _ _ _ := x1.tab off2 (by decide) ((x1.T3.apart (by decide) nc100).off off2).tb T2
  have hps : p.size = m := by rw [row.size, hzl]
  have hplt : ∀ i, p.getD i 0 < m := fun i => by have := row.lt i; omega
  have hl2 : h₂.IsList Dd ((p.map fun i => zs.getD i .none).toList).toArray := by rw [Array.toArray_toList]; exact ⟨_, gDd, rfl, cc, rfl⟩
  have hbig : 111 < h₂.objs.size := Nat.lt_trans x.hi (Nat.lt_trans (Nat.lt_add_of_pos_right (by decide)) x2.top)
  refine wpAny_pyIter_list hl2 ?_
  refine ⟨_, _, _, _, [(N.n_words, .ref D), (N.n_tape, tv), (N.n_numbers, nv), (N.n_script, sv)], csrcNum (s := { s with heap := h₂, toks := tk₂ }) (ks := p.toList.map fun i => ((num (wordAt c wd i).toList : Nat) : Int)) ok (by omega) (by omega) x2.B x2.T3 hbig hl2 (by simp [hps]; omega) ?_, x2.F.kp (kp_push _ _), ?_, rfl, ?_⟩
  · intro i v hvi
    rw [Array.getElem?_toList, Array.getElem?_map, Option.map_eq_some_iff] at hvi
    obtain ⟨k, e1, rfl⟩ := hvi
    have hk : k < m := by have := hplt i; rw [Array.getD_eq_getD_getElem?, e1] at this; exact this
    refine ⟨wordAt c wd k, ts k, ?_, ?_, ?_⟩
    · rw [List.getD_eq_getElem?_getD, hv k hk]; rfl
    · rw [wordAt_size hc hk]; omega
    · rw [List.getElem?_map, Array.getElem?_toList, e1]; rfl
  · simp only [List.cons_append, List.nil_append, List.mem_cons, List.not_mem_nil, or_false, not_or]
    exact ⟨Nat.ne_of_lt x2.F.lt, hL93⟩
  intro C2 D2 ys h₃ h₄ tk₃ nD2 hyl g ⟨jI, jT⟩ off0 kLC hLD F4 off
  have hyl' : ys.length = (p.toList.map fun i => ((num (wordAt c wd i).toList : Nat) : Int)).length := by rw [hyl]; simp
  rw [hyl', List.take_length] at jI
  have off3 : Off [L, 93] h₂ h₄ := fun b o hb e => off b o (by
    simp only [List.cons_append, List.nil_append, List.mem_cons, List.not_mem_nil, or_false, not_or] at hb ⊢
    exact ⟨hb.1, Nat.ne_of_lt (Heap.lt_size e), hb.2⟩) (kp_push _ _ _ _ e)
  have T4 : Tb h₄ 93 pos93 q93 := by
    have FL : Fm {} h₃ L _ := (x2.F.kp (kp_push _ _)).off off0 (by
      simp only [List.cons_append, List.nil_append, List.mem_cons, List.not_mem_nil, or_false, not_or]
      exact ⟨Nat.ne_of_lt x2.F.lt, hL93⟩) fun b _ => by simp [Heap.get?]
    refine ((jT.more (ws' := [L, C2]) fun b hb => ?_).off kLC).tb
    simp only [List.mem_cons, List.not_mem_nil, or_false] at hb
    rcases hb with rfl | rfl
    · exact .inr ⟨hL93, noCode_frame FL⟩
    · exact .inl (by simp)
  have x4 := x2.st93 off3 F4 T4
  refine h D2 h₄ tk₃ ys p x4 g jI (hzl ▸ row) (hzl ▸ up) ?_ fun b o hb e => ?_
  · obtain ⟨ps, e⟩ := p23
    exact ⟨ps, off3 23 _ (by simp only [List.mem_cons, List.not_mem_nil, or_false, not_or]; exact ⟨Ne.symm hL23, by decide⟩) (off2 23 _ (by decide) e)⟩
  · simp only [List.mem_cons, List.not_mem_nil, or_false, not_or] at hb
    exact off3 b o (by simp [hb]) (off2 b o (by simp [hb]) (off1 b o (by simp [hb]) e))
end
end Mine
end
section
open PySem PySem.W PySem.W.X PySem.W.XRun PyProof.Rows PySem.Calls
set_option Elab.async false
set_option maxRecDepth 100000
namespace Mine
theorem mg_filemode (P : Params) : mg P N.n_filemode = some (.ref 84) := by kernel_rfl
theorem mg_law_signs (P : Params) : mg P N.n_law_signs = some (.ref 91) := by kernel_rfl
noncomputable def fdM (P : Params) : FuncData := match (kO P 84).data with | .func fd => fd | _ => default
theorem fdM_eq (P : Params) : (kO P 84).data = .func (fdM P) := by kernel_rfl
noncomputable def fdG (P : Params) : FuncData := match (kO P 91).data with | .func fd => fd | _ => default
theorem fdG_eq (P : Params) : (kO P 91).data = .func (fdG P) := by kernel_rfl
noncomputable abbrev prO (k : Int) (x : Str) (t t' : Tok) : Obj := ⟨.type "list", none, .seq #[.int k t, .str x t'] 0, #[]⟩
noncomputable def pairScope (nm : Str) : Scope := ⟨.function, [(⟨#[46, 48]⟩, .local), (N.n_number, .local), (nm, .globalImplicit)], false, false, []⟩
noncomputable def PairsAt (h : Heap) (f : Int → Str) (ks : List Int) (ws : List Addr) (ys : List Value) : Prop :=
  ∀ (i : Nat) y, ys[i]? = some y → ∃ a k t t', y = .ref a ∧ ks[i]? = some k ∧ a ∉ ws ∧ h.get? a = some (prO k (f k) t t')
theorem PairsAt.off {h h' : Heap} {f : Int → Str} {ks : List Int} {ws : List Addr} {ys : List Value} (x : PairsAt h f ks ws ys) (k : Off ws h h') : PairsAt h' f ks ws ys := fun i y e =>
  let ⟨a, q, t, t', e1, e2, n, g⟩ := x i y e; ⟨a, q, t, t', e1, e2, n, k _ _ n g⟩
theorem PairsAt.kp {h h' : Heap} {f : Int → Str} {ks : List Int} {ws : List Addr} {ys : List Value} (x : PairsAt h f ks ws ys) (k : Kp h h') : PairsAt h' f ks ws ys := x.off fun b o _ e => k b o e
noncomputable def pd (f : Int → Str) (k : Int) : PyData := .list [.int k, .str (f k)]
theorem PairsAt.reads {h : Heap} {f : Int → Str} {ws : List Addr} : ∀ {ys : List Value} {ks : List Int}, PairsAt h f ks ws ys → ys.length = ks.length → ∃ as, ReadsAll h ys (ks.map (pd f)) as
  | [], [], _, _ => ⟨_, .nil⟩
  | y :: ys, k :: ks, x, hl => by
    obtain ⟨a, q, t, t', rfl, e, _, g⟩ := x 0 y rfl
    simp at e; subst e
    obtain ⟨as, r⟩ := PairsAt.reads (h := h) (f := f) (ws := ws) (ys := ys) (ks := ks) (fun i y e => by
      obtain ⟨a, q, t, t', e1, e2, n, g⟩ := x (i + 1) y (by simpa using e)
      exact ⟨a, q, t, t', e1, by simpa using e2, n, g⟩) (by simpa using hl)
    exact ⟨_, .cons (.list g rfl rfl (.cons (.int _ _) (.cons (.str _ _) .nil))) r⟩
theorem pd_eqv (f : Int → Str) : ∀ ks : List Int, PyData.eqvAll (ks.map (pd f)) (ks.map (pd f)) = true
  | [] => by simp [PyData.eqvAll]
  | k :: r => by simp [PyData.eqvAll, pd, PyData.eqv, pd_eqv f r]
theorem pd_canLay (f : Int → Str) : ∀ ks : List Int, (∀ k ∈ ks, PyData.strOk (f k) = true) → PyData.canLayAll0 (ks.map (pd f)) = true
  | [], _ => by simp [PyData.canLayAll0]
  | k :: r, h => by
    simp only [List.map_cons, PyData.canLayAll0, pd, PyData.canLay0, h k List.mem_cons_self, Bool.and_true, Bool.true_and]
    exact pd_canLay f r fun q hq => h q (List.mem_cons_of_mem _ hq)
theorem pd_depth (f : Int → Str) : ∀ ks : List Int, PyData.depthAll (ks.map (pd f)) ≤ 1
  | [] => by simp [PyData.depthAll]
  | k :: r => by
    have := pd_depth f r
    simp [PyData.depthAll, pd, PyData.depth] at this ⊢
    omega
theorem pd_shaped (f : Int → Str) (ks : List Int) (h : ∀ k ∈ ks, PyData.strOk (f k) = true) : SeqAt.shaped (.list (ks.map (pd f))) = true := by
  have h1 := pd_canLay f ks h
  have h2 := pd_depth f ks
  unfold SeqAt.shaped
  rw [Bool.and_eq_true]
  exact ⟨by simp only [PyData.canLay0]; exact h1, decide_eq_true (by simp only [PyData.depth]; omega)⟩
section
variable {w : World} {A : Around} {E : Value → Shared → Prop} {s : Shared} {L : Addr}
set_option maxHeartbeats 1000000 in
theorem csrcPair {nm : Str} {fa : Addr} {fd : FuncData} {f : Int → Str} {p1 p2 p3 p4 p5 : Pos} {al : Addr} {zs : List Value} {ks : List Int} (ok : AOk A) (B : Bas w.params s.heap) (hbig : 111 < s.heap.objs.size) (hl : s.heap.IsList al zs.toArray) (hz : IntsAre zs ks) (hlen : zs.length ≤ 1000)
    (hnm : mg w.params nm = some (.ref fa)) (hfa : ∀ h, Bas w.params h → h.get? fa = some (kO w.params fa)) (hfd : (kO w.params fa).data = .func fd) (hks : ∀ k ∈ ks, 0 ≤ k ∧ k < 2 ^ 40)
    (hf : ∀ (k : Int) (t : Tok) (s' : Shared) (Q' : Value → Shared → Prop) E', Bas w.params s'.heap → 0 ≤ k → k < 2 ^ 40 → (∀ t h' tk, Kp s'.heap h' → Q' (.str (f k) t) { s' with heap := h', toks := tk }) → wpAny (model prog w) A (call (.ref fa) [.int k t]) Q' E' s')
    (hkind : ∀ C, (compEnvC (pairScope nm) [] C (lEnv L)).kindOf nm = some .globalImplicit) (hdb : (nm == ("__debug__" : Str)) = false) :
    CSrc prog w A (lEnv L) (.List [.Name N.n_number p1, .Call (.Name nm p2) [.Name N.n_number p3] [] p4] p5) N.n_number (pairScope nm) [] [] (fun C D ys h => PairsAt h f ks [C, D, s.heap.objs.size] ys) zs.length (.ref s.heap.objs.size)
      { s with heap := s.heap.push { cls := .type "list_iterator", data := .fields #[.ref al, .int 0 0] } } [s.heap.objs.size] := by
  have hal : al < s.heap.objs.size := by obtain ⟨o, e, _⟩ := hl; exact Heap.lt_size e
  have kI : Kp s.heap (s.heap.push { cls := .type "list_iterator", data := .fields #[.ref al, .int 0 0] }) := kp_push _ _
  have hiI : (s.heap.push { cls := .type "list_iterator", data := .fields #[.ref al, .int 0 0] }).IsListIter s.heap.objs.size al 0 := ⟨_, Heap.get?_push_size _ rfl, rfl, rfl⟩
  refine ⟨⟨s.heap.objs.size, [s.heap.objs.size, al], fun i v => zs.toArray[i]? = some v, fun i h => h.IsListIter s.heap.objs.size al i ∧ h.IsList al zs.toArray, rfl, by simpa using Walks.list (prog := prog) (w := w) (A := A) ok.handled s.heap.objs.size al (Nat.ne_of_lt hal) zs.toArray, hlen, ⟨hiI, hl.push _⟩, ?_, by simp, ?_⟩, by simp, ?_, ?_⟩
  · intro b hb
    rw [size_push]
    simp only [List.mem_cons, List.not_mem_nil, or_false] at hb
    rcases hb with rfl | rfl
    · exact Nat.lt_succ_self _
    · exact Nat.lt_succ_of_lt hal
  · intro C D i ys v s' E' nC nD hi hyl hP F st g jP off
    obtain ⟨k, t, rfl, hk⟩ := IntsAre.at hz i v (by simpa using hP)
    obtain ⟨hk0, hk1⟩ := hks k (List.mem_of_getElem? hk)
    have B' : Bas w.params s'.heap := (B.keeps kI).offK off fun b hb => by
      simp only [List.append_nil, List.mem_cons, List.not_mem_nil, or_false] at hb
      subst hb
      exact .inr (klook _ (Nat.lt_trans (by decide) hbig))
    refine wpAny_List_spliced ?_
    show wpAny _ _ (spliced [(false, eval (.Name N.n_number p1) (compEnvC (pairScope nm) [] C (lEnv L))), (false, eval (.Call (.Name nm p2) [.Name N.n_number p3] [] p4) (compEnvC (pairScope nm) [] C (lEnv L)))]) _ _ _
    refine spliced_cons (ldF (hL := by rfl) (hk := by rfl) (hl := by rfl) (hd := by rfl) F (by k_mem) (spliced_cons (A_call1 (he := by rfl) (f := .ref fa) (lglo B'.g hnm ⟨rfl, ldF (hL := by rfl) (hk := by rfl) (hl := by rfl) (hd := by rfl) F (by k_mem) ⟨calF (hfa _ B') hfd, ?_⟩⟩ rfl (hkind C) hdb))))
    refine hf k t s' _ _ B' hk0 hk1 fun t' h₁ tk₁ k₁ => spliced_nil ⟨lns (n := 2) rfl (by omega), ?_⟩
    refine ⟨_, _, rfl, fun b o _ e => kp_push _ _ _ _ (k₁ _ _ e), ?_⟩
    have jP2 : PairsAt (h₁.push (prO k (f k) t t')) f ks [C, D, s.heap.objs.size] ys := jP.kp fun b o e => kp_push _ _ _ _ (k₁ _ _ e)
    intro i' y hy
    by_cases hlt : i' < ys.length
    · rw [List.getElem?_append_left hlt] at hy; exact jP2 i' y hy
    · have hil : i' < (ys ++ [Value.ref h₁.objs.size]).length := (List.getElem?_eq_some_iff.mp hy).1
      rw [List.length_append, List.length_singleton] at hil
      obtain rfl : i' = i := by omega
      rw [List.getElem?_append_right (by omega), hyl, Nat.sub_self] at hy
      simp at hy; subst hy
      refine ⟨h₁.objs.size, k, t, t', rfl, hk, ?_, Heap.get?_push_size _ rfl⟩
      have al : ∀ {b : Addr} {o : Obj}, s'.heap.get? b = some o → h₁.objs.size ≠ b := fun e q => absurd (Heap.lt_size (k₁ _ _ e)) (by rw [q]; exact Nat.lt_irrefl _)
      simp only [List.mem_cons, List.not_mem_nil, or_false, not_or]
      refine ⟨?_, ?_, ?_⟩
      · obtain ⟨mm, ⟨⟨o, _, _, e, _⟩, _, _⟩, _⟩ := F; exact al e
      · obtain ⟨n, e⟩ := g; exact al e
      · obtain ⟨o, e, _⟩ := st.1; exact al e
  · intro C D h nC nD k i y e
    simp at e
  · rintro C D ys h h' j k
    exact j.off k
end
end Mine
end
section
open PySem PySem.W PySem.W.X PySem.W.XRun PyProof.Rows PySem.Calls
set_option Elab.async false
set_option maxRecDepth 100000
namespace Mine
noncomputable def sgF (k : Int) : Str := txt (sgL k 3)
theorem typeCh_lt (m : Int) : typeCh m < 0x110000 := by
  unfold typeCh
  repeat' split
  all_goals decide
theorem cond_lt {b : Bool} {x y : Nat} (hx : x < 0x110000) (hy : y < 0x110000) : cond b x y < 0x110000 := by cases b <;> assumption
theorem sgF_ok (k : Int) : PyData.strOk (sgF k) = true := by
  unfold PyData.strOk sgF
  rw [← Array.all_toList]
  rw [List.all_eq_true]
  intro c hc
  have : ∀ c ∈ sgL k 3, c < 0x110000 := by
    intro c hc
    simp only [sgL, sgs, sgTurn, List.take, List.flatMap_cons, List.flatMap_nil, List.append_nil, List.cons_append, List.nil_append, List.mem_cons, List.not_mem_nil, or_false] at hc
    rcases hc with rfl | rfl | rfl | rfl | rfl | rfl | rfl | rfl | rfl | rfl
    · exact typeCh_lt _
    all_goals first | exact cond_lt (by decide) (by decide) | exact cond_lt (cond_lt (by decide) (by decide)) (cond_lt (by decide) (by decide))
  simpa using this c (by simpa using hc)
theorem sorted_eq {a b : List Int} (hp : a.Perm b) (ha : a.Pairwise (· ≤ ·)) (hb : b.Pairwise (· ≤ ·)) : a = b := hp.eq_of_pairwise (fun _ _ _ _ h1 h2 => Int.le_antisymm h1 h2) ha hb
section
variable {w : World} {A : Around} {E : Value → Shared → Prop} {s : Shared} {L : Addr}
set_option maxHeartbeats 1000000 in
theorem s7 {vw vt : Option Value} {R Nn : Addr} {ys us : List Value} {rs nums : List Int} {wv tv sv : Value} {Q : Flow → Shared → Prop} (ok : AOk A) (hu : A.units ≤ 1000) (hdp : A.depth ≤ 350)
    (x : LSt w s.heap L [(N.n_row, .ref R), (N.n_words, wv), (N.n_tape, tv), (N.n_numbers, .ref Nn), (N.n_script, sv)] vw vt)
    (gR : s.heap.PlainList R ys.toArray) (hR : IntsAre ys rs) (gN : s.heap.PlainList Nn us.toArray) (hN : IntsAre us nums) (hl9 : nums.length ≤ 9) (hp : rs.Perm nums) (hs : rs.Pairwise (· ≤ ·)) (hks : ∀ k ∈ nums, 0 ≤ k ∧ k < 2 ^ 40)
    (hfm : ∀ k : Int, 0 ≤ k → k < 2 ^ 40 → fmL k = sgL k 3)
    (h : ∀ h' tk, Kp s.heap h' → Q (.ret (.bool true)) { s with heap := h', toks := tk }) :
    wpAny (model prog w) A (exec (lS w.params 7) (lEnv L)) Q E s := by
  have hrl : ys.length = nums.length := hR.length.trans hp.length_eq
  have hbig : ∀ {h : Heap}, LSt w h L [(N.n_row, .ref R), (N.n_words, wv), (N.n_tape, tv), (N.n_numbers, .ref Nn), (N.n_script, sv)] vw vt → 111 < h.objs.size := fun z => Nat.lt_trans z.hi (Nat.lt_trans (Nat.lt_add_of_pos_right (by decide)) z.top)
  refine wpAny_Return_some (wpAny_Compare1 (compE (hs := by intro _; rfl) (hcell := by decide) (hkind := by rfl) (hnames := by decide) (hx := by rfl) (cl := []) rfl (ldF (hL := by rfl) (hk := by rfl) (hl := by rfl) (hd := by rfl) x.F (by k_mem) (wpAny_pyIter_list gR.isList ?_))))
  refine ⟨_, _, _, _, csrcPair (nm := N.n_filemode) (fa := 84) (f := sgF) ok x.B (hbig x) gR.isList hR (by omega) (mg_filemode _) (fun h B => B.at 84 rfl (by decide)) (fdM_eq _) (fun k hk => hks k (hp.mem_iff.mp hk)) (fun k t s' Q' E' B h0 h1 hq => fmode ok hu hdp B fun t h' tk kp => ?_) (fun C => rfl) rfl, ?_⟩
  · rw [hfm k h0 h1]; exact hq _ _ _ kp
  intro C D1 ys1 h1 tk1 nD1 hl1 g1 jP off1
  have kp1 : Kp s.heap h1 := fun b o e => off1 b o (by
    simp only [List.append_nil, List.mem_cons, List.not_mem_nil, or_false]
    exact Nat.ne_of_lt (Heap.lt_size e)) (kp_push _ _ _ _ e)
  have x1 := x.kp kp1
  have gN1 := gN.at (kp1 Nn)
  refine compE (hs := by intro _; rfl) (hcell := by decide) (hkind := by rfl) (hnames := by decide) (hx := by rfl) (cl := []) rfl (A_call1 (he := by rfl) (f := .builtin "sorted") (lbui (hk := by rfl) (hl := by rfl) (hd := by rfl) x1.B.g (mg_sorted _) x1.B.b (mb_sorted _) ⟨rfl, ldF (hL := by rfl) (hk := by rfl) (hl := by rfl) (hd := by rfl) x1.F (by k_mem) ⟨calB, sorted_ints gN1.isList hN (by rw [hN.length]; omega) fun out ns' o1 o2 o3 => ?_⟩⟩))
  obtain ⟨ep, gO⟩ := sortedAll_at h1 us out
  have kp2 : Kp h1 (sortedAll h1 us out) := fun _ _ e => sortedAll_old e
  dsimp only
  generalize h1.objs.size + 1 = so at gO ⊢
  generalize sortedAll h1 us out = h2 at gO kp2 ⊢
  have x2 := x1.kp kp2
  have hO : h2.IsList so out.toList.toArray := by rw [Array.toArray_toList]; exact ⟨_, gO, rfl, ep, rfl⟩
  have hol : out.toList.length = nums.length := o1.length.trans o2.length_eq
  refine wpAny_pyIter_list hO ?_
  refine ⟨_, _, _, _, csrcPair (s := { s with heap := h2, toks := tk1 }) (nm := N.n_law_signs) (fa := 91) (f := sgF) ok x2.B (hbig x2) hO o1 (by omega) (mg_law_signs _) (fun h B => B.at 91 rfl (by decide)) (fdG_eq _) (fun k hk => hks k (o2.mem_iff.mp hk)) (fun k t s' Q' E' B h0 h1 hq => lsigns ok hu hdp B h0 h1 fun t h' tk kp => hq _ _ _ kp) (fun C => rfl) rfl, ?_⟩
  intro C2 D2 ys2 h3 tk3 nD2 hl2 g2 jP2 off2
  have kp3 : Kp h2 h3 := fun b o e => off2 b o (by
    simp only [List.append_nil, List.mem_cons, List.not_mem_nil, or_false]
    exact Nat.ne_of_lt (Heap.lt_size e)) (kp_push _ _ _ _ e)
  have kp13 : Kp h1 h3 := fun b o e => kp3 b o (kp2 b o e)
  have er : ns' = rs := sorted_eq (o2.trans hp.symm) o3 hs
  subst er
  obtain ⟨as1, r1⟩ := (jP.kp kp13).reads (by rw [hl1, hrl, o2.length_eq])
  obtain ⟨as2, r2⟩ := jP2.reads (by rw [hl2, hol, o2.length_eq])
  obtain ⟨n1, e1⟩ := g1.at (kp13 D1)
  obtain ⟨n2, e2⟩ := g2
  have sh := pd_shaped sgF ns' fun k _ => sgF_ok k
  refine eq_dataH (da := .list (ns'.map (pd sgF))) (db := .list (ns'.map (pd sgF))) (.list e1 rfl rfl (by simpa using r1)) (.list e2 rfl rfl (by simpa using r2)) sh sh (by show A.units + 64 < 9900; omega) ?_
  rw [show PyData.eqv (.list (ns'.map (pd sgF))) (.list (ns'.map (pd sgF))) = true by simp only [PyData.eqv]; exact pd_eqv _ _]
  exact h h3 _ fun b o e => kp13 b o (kp1 b o e)
end
end Mine
end
section
open PySem PySem.W PySem.W.X PySem.W.XRun PyProof.Rows PySem.Calls
set_option Elab.async false
set_option maxRecDepth 100000
namespace Mine
theorem u8 (n : Nat) (h : n < 256) : n.toUInt8.toNat = n := by
  show n % 256 = n
  exact Nat.mod_eq_of_lt h
theorem num_digits (wd X : Nat) (h1 : 2 ≤ wd) (h2 : wd ≤ 4) (hX : X < 256 ^ wd) : num ((List.range wd).map fun r => (X / 256 ^ (wd - 1 - r) % 256).toUInt8) = X := by
  have e : ∀ n : Nat, (n % 256).toUInt8.toNat = n % 256 := fun n => u8 _ (Nat.mod_lt _ (by decide))
  obtain rfl | rfl | rfl : wd = 2 ∨ wd = 3 ∨ wd = 4 := by omega
  · simp only [List.range, List.range.loop, List.map_cons, List.map_nil, num, List.foldl_cons, List.foldl_nil, e]
    simp only [Nat.reduceSub, Nat.reducePow] at hX ⊢
    omega
  · simp only [List.range, List.range.loop, List.map_cons, List.map_nil, num, List.foldl_cons, List.foldl_nil, e]
    simp only [Nat.reduceSub, Nat.reducePow] at hX ⊢
    omega
  · simp only [List.range, List.range.loop, List.map_cons, List.map_nil, num, List.foldl_cons, List.foldl_nil, e]
    simp only [Nat.reduceSub, Nat.reducePow] at hX ⊢
    omega
theorem oct_nat (X j : Nat) : (((X : Int).fdiv (256 ^ j)).fmod 256).toNat = X / 256 ^ j % 256 := by
  have e1 : ((256 : Int) ^ j) = ((256 ^ j : Nat) : Int) := by push_cast; rfl
  rw [e1, Int.fdiv_eq_ediv_of_nonneg _ (Int.natCast_nonneg _), Int.fmod_eq_emod_of_nonneg _ (by decide)]
  have : ((X : Int) / ((256 ^ j : Nat) : Int)) % 256 = ((X / 256 ^ j % 256 : Nat) : Int) := by push_cast; rfl
  rw [this]; rfl
theorem word_list {c : Array UInt8} {nums : List Int} {m wd i : Nat} {x : Int} (hc : c.size = m * wd) (hi : i < m) (r1 : ∀ i < m, ∀ j < wd, c[i * wd + (wd - 1 - j)]? = (byteArr (octs nums wd))[i * wd + j]?) (hx : nums[i]? = some x) (h0 : 0 ≤ x) :
    (wordAt c wd i).toList = (List.range wd).map fun r => (x.toNat / 256 ^ (wd - 1 - r) % 256).toUInt8 := by
  refine List.ext_getElem? fun r => ?_
  by_cases hr : r < wd
  · have e := r1 i hi (wd - 1 - r) (by omega)
    rw [show wd - 1 - (wd - 1 - r) = r by omega] at e
    unfold wordAt
    rw [List.getElem?_take_of_lt hr, List.getElem?_drop, Array.getElem?_toList, e]
    unfold byteArr
    rw [List.getElem?_toArray, List.getElem?_map, octs_at wd nums i (wd - 1 - r) x hx (by omega), List.getElem?_map, List.getElem?_range hr]
    obtain ⟨X, rfl⟩ := Int.eq_ofNat_of_zero_le h0
    simp only [Option.map_some]
    rw [oct_nat, Int.toNat_natCast]
  · rw [List.getElem?_eq_none (by
      have := wordAt_size hc hi
      rw [← Array.length_toList] at this
      omega), List.getElem?_eq_none (by simpa using hr)]
theorem nums_words {c : Array UInt8} {nums : List Int} {m wd : Nat} (hm : nums.length = m) (hw1 : 2 ≤ wd) (hw2 : wd ≤ 4) (hc : c.size = m * wd) (r1 : ∀ i < m, ∀ j < wd, c[i * wd + (wd - 1 - j)]? = (byteArr (octs nums wd))[i * wd + j]?)
    (hx : ∀ x ∈ nums, 0 ≤ x ∧ x < 256 ^ wd) : nums = (List.range m).map fun i => ((num (wordAt c wd i).toList : Nat) : Int) := by
  refine List.ext_getElem? fun i => ?_
  by_cases hi : i < m
  · obtain ⟨x, e⟩ : ∃ x, nums[i]? = some x := ⟨nums[i]'(by omega), List.getElem?_eq_getElem (by omega)⟩
    obtain ⟨h0, h1⟩ := hx x (List.mem_of_getElem? e)
    rw [e, List.getElem?_map, List.getElem?_range hi, Option.map_some, word_list hc hi r1 e h0]
    obtain ⟨X, rfl⟩ := Int.eq_ofNat_of_zero_le h0
    rw [num_digits wd _ hw1 hw2 (by
      rw [Int.toNat_natCast]
      have : ((256 : Int) ^ wd) = ((256 ^ wd : Nat) : Int) := by push_cast; rfl
      rw [this] at h1
      exact Int.ofNat_lt.mp h1)]
    rw [Int.toNat_natCast]
  · rw [List.getElem?_eq_none (by omega), List.getElem?_eq_none (by simpa using hi)]
end Mine
end
section
open PySem PySem.W PySem.W.X PySem.W.XRun PyProof.Rows PySem.Calls
set_option Elab.async false
set_option maxRecDepth 100000
namespace Mine
theorem and_cast (X c : Nat) : Builtin.bitAnd (X : Int) (c : Int) = ((X &&& c : Nat) : Int) := by
  rw [bitAnd_pp (Int.natCast_nonneg _) (Int.natCast_nonneg _)]
  rfl
theorem and_bit (X i : Nat) : X &&& 2 ^ i = (X / 2 ^ i % 2) * 2 ^ i := by
  have hb : X.testBit i = decide (X / 2 ^ i % 2 = 1) := Nat.testBit_eq_decide_div_mod_eq
  refine Nat.eq_of_testBit_eq fun j => ?_
  rw [Nat.testBit_and, Nat.testBit_two_pow]
  rcases Nat.mod_two_eq_zero_or_one (X / 2 ^ i) with h | h
  · rw [h] at hb ⊢
    rw [Nat.zero_mul, Nat.zero_testBit]
    by_cases e : i = j
    · subst e; rw [hb]; rfl
    · simp [e]
  · rw [h] at hb ⊢
    rw [Nat.one_mul, Nat.testBit_two_pow]
    by_cases e : i = j
    · subst e; rw [hb]; rfl
    · simp [e]
theorem and_two (X i j : Nat) (h : j < i) : X &&& (2 ^ i + 2 ^ j) = (X / 2 ^ i % 2) * 2 ^ i + (X / 2 ^ j % 2) * 2 ^ j := by
  have hlt : 2 ^ j < 2 ^ i := Nat.pow_lt_pow_right (by decide) h
  have e1 : 2 ^ i + 2 ^ j = 2 ^ i ||| 2 ^ j := by
    have := Nat.two_pow_add_eq_or_of_lt hlt 1
    simpa using this
  rw [e1, Nat.and_or_distrib_left, and_bit, and_bit]
  rcases Nat.mod_two_eq_zero_or_one (X / 2 ^ i) with h1 | h1 <;> rcases Nat.mod_two_eq_zero_or_one (X / 2 ^ j) with h2 | h2 <;> rw [h1, h2] <;> simp [e1]
theorem and_top (X : Nat) : X &&& 61440 = (X / 4096 % 16) * 4096 := by
  have e : (61440 : Nat) = 15 <<< 12 := by decide
  have e2 : (X / 4096 % 16) * 4096 = ((X >>> 12) % 2 ^ 4) <<< 12 := by
    rw [Nat.shiftRight_eq_div_pow, Nat.shiftLeft_eq]
  rw [e, e2]
  refine Nat.eq_of_testBit_eq fun i => ?_
  rw [Nat.testBit_and, Nat.testBit_shiftLeft, Nat.testBit_shiftLeft, Nat.testBit_mod_two_pow, Nat.testBit_shiftRight, show (15 : Nat) = 2 ^ 4 - 1 from rfl, Nat.testBit_two_pow_sub_one]
  by_cases h : 12 ≤ i
  · simp only [h, decide_true, Bool.true_and]
    rw [show 12 + (i - 12) = i by lia, Bool.and_comm]
  · simp [h]
noncomputable def bt (X i : Nat) : Bool := X / 2 ^ i % 2 == 1
theorem bt_num (X i : Nat) : X / 2 ^ i % 2 = (bt X i).toNat := by
  unfold bt
  rcases Nat.mod_two_eq_zero_or_one (X / 2 ^ i) with h | h <;> rw [h] <;> rfl
theorem type_all : ∀ t : Fin 16, ((([⟨45, 40960, 243, 108, 271⟩, ⟨46, 49152, 245, 115, 272⟩, ⟨47, 32768, 239, 45, 273⟩, ⟨48, 24576, 237, 98, 274⟩, ⟨49, 16384, 233, 100, 275⟩, ⟨50, 8192, 235, 99, 276⟩, ⟨51, 4096, 241, 112, 277⟩] : List Pr).find? fun p => ((t.val * 4096 : Nat) : Int) == p.bit).map Pr.ch).getD 63 = typeCh ((t.val : Nat) : Int) := by decide
theorem sgn_top (X : Nat) : sgnT 0 (X : Int) [⟨45, 40960, 243, 108, 271⟩, ⟨46, 49152, 245, 115, 272⟩, ⟨47, 32768, 239, 45, 273⟩, ⟨48, 24576, 237, 98, 274⟩, ⟨49, 16384, 233, 100, 275⟩, ⟨50, 8192, 235, 99, 276⟩, ⟨51, 4096, 241, 112, 277⟩] = typeCh ((X / 4096 % 16 : Nat) : Int) := by
  have h := type_all ⟨X / 4096 % 16, Nat.mod_lt _ (by decide)⟩
  have e : ∀ p : Pr, hitP 0 (X : Int) p = (((X / 4096 % 16 * 4096 : Nat) : Int) == p.bit) := fun p => by
    unfold hitP
    rw [if_pos rfl, show (61440 : Int) = ((61440 : Nat) : Int) from rfl, and_cast, and_top]
  unfold sgnT
  rw [show hitP 0 (X : Int) = fun p => (((X / 4096 % 16 * 4096 : Nat) : Int) == p.bit) from funext e, if_pos rfl]
  exact h
theorem sgn_one (X k i : Nat) (hk : k ≠ 0) (a : Addr) (c : Nat) (t1 t2 : Tok) : sgnT k (X : Int) [⟨a, ((2 ^ i : Nat) : Int), t1, c, t2⟩] = cond (bt X i) c 45 := by
  have e : hitP k (X : Int) ⟨a, ((2 ^ i : Nat) : Int), t1, c, t2⟩ = bt X i := by
    unfold hitP
    rw [if_neg hk]
    dsimp only
    rw [and_cast, and_bit, bt_num]
    have hp : 0 < 2 ^ i := Nat.two_pow_pos i
    generalize 2 ^ i = P at hp
    rw [Bool.eq_iff_iff, beq_iff_eq, Int.ofNat_inj]
    cases bt X i
    · simp; lia
    · simp
  unfold sgnT
  rw [List.find?_cons, e]
  cases bt X i <;> simp [hk]
theorem sgn_two (X k i j : Nat) (hk : k ≠ 0) (h : j < i) (a b d : Addr) (c1 c2 c3 : Nat) (t1 t2 t3 t4 t5 t6 : Tok) :
    sgnT k (X : Int) [⟨a, ((2 ^ i + 2 ^ j : Nat) : Int), t1, c1, t2⟩, ⟨b, ((2 ^ i : Nat) : Int), t3, c2, t4⟩, ⟨d, ((2 ^ j : Nat) : Int), t5, c3, t6⟩] = cond (bt X i) (cond (bt X j) c1 c2) (cond (bt X j) c3 45) := by
  have hpi : 0 < 2 ^ i := Nat.two_pow_pos i
  have hpj : 0 < 2 ^ j := Nat.two_pow_pos j
  have hlt : 2 ^ j < 2 ^ i := Nat.pow_lt_pow_right (by decide) h
  have e1 : hitP k (X : Int) ⟨a, ((2 ^ i + 2 ^ j : Nat) : Int), t1, c1, t2⟩ = (bt X i && bt X j) := by
    unfold hitP
    rw [if_neg hk]
    dsimp only
    rw [and_cast, and_two X i j h, bt_num, bt_num]
    generalize 2 ^ i = P at hpi hlt
    generalize 2 ^ j = R at hpj hlt
    rw [Bool.eq_iff_iff, beq_iff_eq, Int.ofNat_inj]
    cases bt X i <;> cases bt X j <;> simp <;> lia
  have e2 : hitP k (X : Int) ⟨b, ((2 ^ i : Nat) : Int), t3, c2, t4⟩ = bt X i := by
    unfold hitP
    rw [if_neg hk]
    dsimp only
    rw [and_cast, and_bit, bt_num]
    generalize 2 ^ i = P at hpi hlt
    rw [Bool.eq_iff_iff, beq_iff_eq, Int.ofNat_inj]
    cases bt X i <;> simp <;> lia
  have e3 : hitP k (X : Int) ⟨d, ((2 ^ j : Nat) : Int), t5, c3, t6⟩ = bt X j := by
    unfold hitP
    rw [if_neg hk]
    dsimp only
    rw [and_cast, and_bit, bt_num]
    generalize 2 ^ j = R at hpj hlt
    rw [Bool.eq_iff_iff, beq_iff_eq, Int.ofNat_inj]
    cases bt X j <;> simp <;> lia
  unfold sgnT
  rw [List.find?_cons, List.find?_cons, List.find?_cons, e1, e2, e3]
  cases bt X i <;> cases bt X j <;> simp [hk]
theorem fmL_bits (X : Nat) : fmL (X : Int) = [typeCh ((X / 4096 % 16 : Nat) : Int), cond (bt X 8) 114 45, cond (bt X 7) 119 45, cond (bt X 11) (cond (bt X 6) 115 83) (cond (bt X 6) 120 45),
    cond (bt X 5) 114 45, cond (bt X 4) 119 45, cond (bt X 10) (cond (bt X 3) 115 83) (cond (bt X 3) 120 45), cond (bt X 2) 114 45, cond (bt X 1) 119 45, cond (bt X 9) (cond (bt X 0) 116 84) (cond (bt X 0) 120 45)] := by
  show [sgnT 0 (X : Int) _, sgnT 1 (X : Int) _, sgnT 2 (X : Int) _, sgnT 3 (X : Int) _, sgnT 4 (X : Int) _, sgnT 5 (X : Int) _, sgnT 6 (X : Int) _, sgnT 7 (X : Int) _, sgnT 8 (X : Int) _, sgnT 9 (X : Int) _] = _
  refine congr (congrArg List.cons (sgn_top X)) ?_
  refine congr (congrArg List.cons (sgn_one X 1 8 (by decide) 53 114 253 278)) ?_
  refine congr (congrArg List.cons (sgn_one X 2 7 (by decide) 55 119 255 279)) ?_
  refine congr (congrArg List.cons (sgn_two X 3 11 6 (by decide) (by decide) 57 58 59 115 83 120 280 281 247 282 257 283)) ?_
  refine congr (congrArg List.cons (sgn_one X 4 5 (by decide) 61 114 259 284)) ?_
  refine congr (congrArg List.cons (sgn_one X 5 4 (by decide) 63 119 261 285)) ?_
  refine congr (congrArg List.cons (sgn_two X 6 10 3 (by decide) (by decide) 65 66 67 115 83 120 286 287 249 288 263 289)) ?_
  refine congr (congrArg List.cons (sgn_one X 7 2 (by decide) 69 114 265 290)) ?_
  refine congr (congrArg List.cons (sgn_one X 8 1 (by decide) 71 119 267 291)) ?_
  refine congr (congrArg List.cons (sgn_two X 9 9 0 (by decide) (by decide) 73 74 75 116 84 120 292 293 251 294 269 295)) rfl
theorem fdm (X c d : Nat) : ((X : Int).fdiv (c : Int)).fmod (d : Int) = ((X / c % d : Nat) : Int) := by
  rw [Int.fdiv_eq_ediv_of_nonneg _ (Int.natCast_nonneg _), Int.fmod_eq_emod_of_nonneg _ (Int.natCast_nonneg _)]
  push_cast; rfl
theorem top3 : ∀ y : Fin 8, decide ((3 : Int) < ((y.val : Nat) : Int)) = (y.val / 4 == 1) := by decide
theorem cast1 (n : Nat) : (((n : Nat) : Int) == 1) = (n == 1) := by
  rw [Bool.eq_iff_iff, beq_iff_eq, beq_iff_eq]
  exact Int.ofNat_inj (n := 1)
theorem turn_bits (X k lo up : Nat) : sgTurn (X : Int) k lo up = [cond (bt X (3 * k + 2)) 114 45, cond (bt X (3 * k + 1)) 119 45, cond (bt X (9 + k)) (cond (bt X (3 * k)) lo up) (cond (bt X (3 * k)) 120 45)] := by
  have e8 : ((8 : Int) ^ k) = ((8 ^ k : Nat) : Int) := by push_cast; rfl
  have e2 : ((2 : Int) ^ k) = ((2 ^ k : Nat) : Int) := by push_cast; rfl
  have eth : ((X : Int).fdiv (8 ^ k)).fmod 8 = ((X / 8 ^ k % 8 : Nat) : Int) := by rw [e8]; exact fdm X _ 8
  have e5 : ((X : Int).fdiv 512).fdiv (2 ^ k) = ((X / 512 / 2 ^ k : Nat) : Int) := by
    have a : (X : Int).fdiv 512 = ((X / 512 : Nat) : Int) := by rw [Int.fdiv_eq_ediv_of_nonneg _ (by decide)]; push_cast; rfl
    rw [e2, a, Int.fdiv_eq_ediv_of_nonneg _ (Int.natCast_nonneg _)]
    push_cast; rfl
  have e6 : (((X : Int).fdiv 512).fdiv (2 ^ k)).fmod 2 = ((X / 512 / 2 ^ k % 2 : Nat) : Int) := by
    rw [e5, Int.fmod_eq_emod_of_nonneg _ (by decide)]; push_cast; rfl
  unfold sgTurn
  dsimp only
  rw [eth, e6]
  have e7 : (((X / 8 ^ k % 8 : Nat) : Int).fdiv 2).fmod 2 = ((X / 8 ^ k % 8 / 2 % 2 : Nat) : Int) := fdm _ 2 2
  have e9 : ((X / 8 ^ k % 8 : Nat) : Int).fmod 2 = ((X / 8 ^ k % 8 % 2 : Nat) : Int) := by
    rw [Int.fmod_eq_emod_of_nonneg _ (by decide)]; push_cast; rfl
  rw [e7, e9]
  have h8 : 8 ^ k = 2 ^ (3 * k) := by rw [Nat.pow_mul]
  have q1 : decide ((3 : Int) < ((X / 8 ^ k % 8 : Nat) : Int)) = bt X (3 * k + 2) := by
    refine (top3 ⟨X / 8 ^ k % 8, Nat.mod_lt _ (by decide)⟩).trans ?_
    show (X / 8 ^ k % (4 * 2) / 4 == 1) = _
    rw [Nat.mod_mul_right_div_self, Nat.div_div_eq_div_mul, h8, bt, Nat.pow_add]
  have q2 : ((((X / 8 ^ k % 8 / 2 % 2 : Nat) : Int)) == 1) = bt X (3 * k + 1) := by
    rw [cast1]
    show (X / 8 ^ k % (2 * 4) / 2 % 2 == 1) = _
    rw [Nat.mod_mul_right_div_self, Nat.mod_mod_of_dvd _ (by decide), Nat.div_div_eq_div_mul, h8, bt, Nat.pow_add]
  have q3 : ((((X / 8 ^ k % 8 % 2 : Nat) : Int)) == 1) = bt X (3 * k) := by
    rw [cast1, Nat.mod_mod_of_dvd _ (by decide), h8, bt]
  have q4 : ((((X / 512 / 2 ^ k % 2 : Nat) : Int)) == 1) = bt X (9 + k) := by
    rw [cast1, Nat.div_div_eq_div_mul, bt, Nat.pow_add]
  rw [q1, q2, q3, q4]
theorem fm_sg (n : Int) (h : 0 ≤ n) : fmL n = sgL n 3 := by
  obtain ⟨X, rfl⟩ := Int.eq_ofNat_of_zero_le h
  have ht : ((X : Int).fdiv 4096).fmod 16 = ((X / 4096 % 16 : Nat) : Int) := fdm X 4096 16
  rw [fmL_bits]
  unfold sgL
  rw [ht]
  show _ = typeCh _ :: (sgTurn (X : Int) 2 115 83 ++ (sgTurn (X : Int) 1 115 83 ++ (sgTurn (X : Int) 0 116 84 ++ [])))
  rw [turn_bits X 2, turn_bits X 1, turn_bits X 0]
  rfl
end Mine
end
section
open PySem PySem.W PySem.W.X PySem.W.XRun PyProof.Rows PySem.Calls
set_option Elab.async false
set_option maxRecDepth 100000
namespace Mine
theorem numsOf_in (ns : List Int) : ∀ x ∈ numsOf ns, 0 ≤ x ∧ x < 256 ^ wdN ns := by
  intro x hx
  unfold numsOf at hx
  obtain ⟨y, _, rfl⟩ := List.mem_map.mp hx
  have hp : (0 : Int) < 256 ^ (wdI ns).toNat := Int.pow_pos (by decide)
  exact ⟨Int.fmod_nonneg_of_pos _ hp, Int.fmod_lt_of_pos _ hp⟩
theorem pow_small (wd : Nat) (h : wd ≤ 4) : (256 : Int) ^ wd ≤ 2 ^ 40 := by
  obtain rfl | rfl | rfl | rfl | rfl : wd = 0 ∨ wd = 1 ∨ wd = 2 ∨ wd = 3 ∨ wd = 4 := by omega
  all_goals decide
theorem row_perm {f : Nat → Int} {p : Array Nat} {m : Nat} (r : Row m p) : (p.toList.map f).Perm ((List.range m).map f) := by
  have h := r.perm.toList
  exact List.Perm.map f (by simpa using h)
theorem row_sorted {f : Nat → Int} {p : Array Nat} {m : Nat} (r : Row m p) (u : Up f p m) : (p.toList.map f).Pairwise (· ≤ ·) := by
  rw [List.pairwise_iff_getElem]
  intro i j hi hj hij
  have hs := r.size
  rw [List.length_map, Array.length_toList] at hi hj
  have h := u i j (Nat.le_of_lt hij) (by omega)
  unfold Fk at h
  rw [Array.getD_eq_getD_getElem?, Array.getD_eq_getD_getElem?, Array.getElem?_eq_getElem hi, Array.getElem?_eq_getElem hj] at h
  simpa using h
section
variable {w : World} {L : Addr}
theorem LSt.plain {h h' : Heap} {bs : List (Str × Value)} {vw vt : Option Value} {D : Addr} {xs : Array Value} {ws : List Addr} (x : LSt w h L bs vw vt) (h23 : ∃ ps, h.get? 23 = some (tabObj ps)) (g : h.PlainList D xs) (k : Off ws h h') (hws : ∀ b ∈ ws, b ∈ [L, L + 1, L + 2, 23, 93, 100]) : h'.PlainList D xs := by
  refine g.at fun o e => k D o (fun hm => ?_) e
  have hb := hws D hm
  obtain ⟨n, e'⟩ := g
  simp only [List.mem_cons, List.not_mem_nil, or_false] at hb
  rcases hb with rfl | rfl | rfl | rfl | rfl | rfl
  · obtain ⟨mm, ⟨⟨o, es, n, e2, d, _⟩, _, _⟩, _⟩ := x.F
    rw [e'] at e2; cases e2; cases d
  · obtain ⟨o, e2, d⟩ := x.cw; rw [e'] at e2; cases e2; cases d
  · obtain ⟨o, e2, d⟩ := x.ct; rw [e'] at e2; cases e2; cases d
  · obtain ⟨ps, e2⟩ := h23; rw [e'] at e2; cases e2
  · obtain ⟨ps, e2, _⟩ := x.T3; rw [e'] at e2; cases e2
  · obtain ⟨ps, e2, _⟩ := x.T0; rw [e'] at e2; cases e2
set_option maxHeartbeats 1000000 in
theorem lawC {Γ : PySem.Ctx} {A : Around} {E : Value → Shared → Prop} {s : Shared} {vs : List Value} {ns : List Int} {Q : Value → Shared → Prop} (hΓ : Γ.In A) (ok : AOk A) (hu : A.units ≤ 900) (hdp : A.depth ≤ 340) (cl : Cln Γ) (B : Bas w.params s.heap)
    (T3 : Tb s.heap 93 pos93 q93) (T0 : Tb s.heap 100 pos100 q100) (h23 : s.heap.get? 23 = some (tabObj #[])) (h111 : 111 < s.heap.objs.size) (hl : s.heap.IsList 111 vs.toArray) (hi : IntsAre vs ns) (h63 : vs.length ≤ 100)
    (h : ∀ h' tk, Off [23, 93, 100] s.heap h' → (∃ ps, h'.get? 23 = some (tabObj ps)) → (∃ ps, h'.get? 93 = some (tabObj ps)) → (∃ ps, h'.get? 100 = some (tabObj ps)) → Q (.bool true) { s with heap := h', toks := tk }) :
    G (model prog w) Γ (call (.ref 110) [.ref 111]) Q E s := by
  refine lawIn hΓ ok (by omega) cl B T3 T0 h111 fun Γ' A' h₁ tk hΓ' ⟨a1, a2, a3⟩ cl' x kp => ?_
  have ok' : AOk A' := ⟨a1.trans ok.handled, by omega, by omega⟩
  have hw := wdN_in ns
  have hl9 := numsOf_len ns
  generalize hLL : s.heap.objs.size = L at x
  have nL : ∀ {b : Addr} {o : Obj}, s.heap.get? b = some o → b < L := fun e => hLL ▸ Heap.lt_size e
  have hhi : 111 < L := hLL ▸ h111
  have z23 : (23 : Nat) < L := Nat.lt_trans (by decide) hhi
  have keep23 : ∀ {g g' : Heap} {ws : List Addr} {o : Obj}, Off ws g g' → (∀ b ∈ ws, b = L ∨ b = L + 1 ∨ b = L + 2 ∨ b = 93) → g.get? 23 = some o → g'.get? 23 = some o := fun k hws e => k 23 _ (fun hm => by
    rcases hws 23 hm with q | q | q | q
    · exact absurd z23 (by rw [q]; exact Nat.lt_irrefl _)
    · exact absurd z23 (by rw [q]; exact Nat.not_lt.mpr (Nat.le_succ _))
    · exact absurd z23 (by rw [q]; exact Nat.not_lt.mpr (Nat.le_add_right _ _))
    · exact absurd q (by decide)) e
  have c23 := kp _ _ h23
  -- width
  refine G_execs_cons (G.of_any hΓ' (s0 ok' x (hl.at fun o e => kp 111 o e) hi h63 fun h₂ tk₂ tw x2 off2 => ?_))
  have d23 := keep23 off2 (by simp) c23
  have hl2 : h₂.IsList 111 vs.toArray := (hl.at fun o e => kp 111 o e).at fun o e => off2 111 o (by
    rw [List.mem_singleton]; exact Nat.ne_of_lt (Nat.lt_succ_of_lt hhi)) e
  -- numbers
  refine G_execs_cons (G.of_any hΓ' (s1 ok' x2 hl2 hi h63 fun D h₃ tk₃ us x3 gD hN _ off3 => ?_))
  have e23 := keep23 off3 (by simp) d23
  -- tape
  refine G_execs_cons (G.of_any hΓ' (s2 ok' x3 gD hN fun h₄ tk₄ tb x4 off4 => ?_))
  have f23 := keep23 off4 (by simp) e23
  have gD4 := x3.plain ⟨_, e23⟩ gD off4 (by simp)
  rw [wdI_cast] at x4
  have hbs : (byteArr (octs (numsOf ns) (wdN ns))).size = (numsOf ns).length * wdN ns := by rw [byteArr_size, octs_len]
  -- turned
  refine G_execs_cons (s3 hΓ' ok' (by omega) (by omega) cl' x4 (by k_mem) hbs (by omega) hw.1 hw.2 fun h₅ tk₅ tc c x5 hc r1 off5 => ?_)
  have g23 := keep23 off5 (by simp) f23
  have gD5 := x4.plain ⟨_, f23⟩ gD4 off5 (by simp)
  -- words
  refine G_execs_cons (G.of_any hΓ' (s4 ok' x5 hc (by omega) hw.1 hw.2 fun W h₆ tk₆ zs x6 gW hzl hz _ off6 => ?_))
  have i23 := keep23 off6 (by simp) g23
  have gD6 := x5.plain ⟨_, g23⟩ gD5 off6 (by simp)
  have hk := nums_words rfl hw.1 hw.2 hc r1 (numsOf_in ns)
  -- the test
  refine G_execs_cons (s5 hΓ' ok' (by omega) (by omega) cl' x6 hbs hc (by omega) hw.1 hw.2 r1 gW hzl hz gD6 hN hk fun h₇ tk₇ x7 off7 => ?_)
  have j23 := keep23 off7 (by simp) i23
  have gD7 := x6.plain ⟨_, i23⟩ gD6 off7 (by simp)
  have gW7 := x6.plain ⟨_, i23⟩ gW off7 (by simp)
  -- row
  refine G_execs_cons (G.of_any hΓ' (s6 ok' (by omega) (by omega) x7 j23 hc (by omega) (by omega) hw.1 hw.2 gW7 hzl hz fun R h₈ tk₈ ys p x8 gR hR row up p23 off8 => ?_))
  have gD8 := x7.plain ⟨_, j23⟩ gD7 off8 (by simp)
  have hp := row_perm (f := fun i => ((num (wordAt c (wdN ns) i).toList : Nat) : Int)) row
  rw [← hk] at hp
  have hs := row_sorted row up
  -- the end
  refine G_execs_cons (G.of_any hΓ' (s7 ok' (by omega) (by omega) x8 gR hR gD8 hN (by omega) hp hs (fun k hk => ?_) (fun k h _ => fm_sg k h) fun h₉ tk₉ kp9 => ?_))
  · obtain ⟨a, b⟩ := numsOf_in ns k hk
    exact ⟨a, Int.lt_of_lt_of_le b (pow_small _ hw.2)⟩
  refine h h₉ tk₉ (fun b o hb e => ?_) ?_ ?_ ?_
  · have hbL := nL e
    simp only [List.mem_cons, List.not_mem_nil, or_false, not_or] at hb
    have n0 : b ≠ L := Nat.ne_of_lt hbL
    have n1 : b ≠ L + 1 := Nat.ne_of_lt (Nat.lt_succ_of_lt hbL)
    have n2 : b ≠ L + 2 := Nat.ne_of_lt (Nat.lt_add_right _ hbL)
    exact kp9 b o (off8 b o (by simp [n0, hb]) (off7 b o (by simp [hb]) (off6 b o (by simp [n0]) (off5 b o (by simp [n2]) (off4 b o (by simp [n0]) (off3 b o (by simp [n0]) (off2 b o (by simp [n1]) (kp b o e))))))))
  · obtain ⟨ps, e⟩ := p23; exact ⟨ps, kp9 _ _ e⟩
  · obtain ⟨ps, e, _⟩ := x8.T3; exact ⟨ps, kp9 _ _ e⟩
  · obtain ⟨ps, e, _⟩ := x8.T0; exact ⟨ps, kp9 _ _ e⟩
end
end Mine
end
section
open PySem PySem.W PySem.W.X PySem.W.ZRun PyProof.Rows
set_option Elab.async false
namespace Mine
noncomputable abbrev A0 : Around := ⟨none, 301, none, none, 4⟩
theorem gam0_in : Gam0.In A0 :=
  ⟨rfl, by show frameCount [] + (Code.builtin "claim.caller" {}).weight ≤ 301; decide +kernel, fun l hl => (by cases hl), fun g hg => (by cases hg),
    by show (Code.builtin "claim.caller" {}).cUnits + unitsOf [] ≤ 4; decide +kernel⟩
theorem gam0_cln : Cln Gam0 := ⟨by decide +kernel, fun x hx => (by cases hx)⟩
theorem k23 (P : Params) : (K P).lookup 23 = some (tabObj #[]) := by kernel_rfl
theorem k93 (P : Params) : (K P).lookup 93 = some (tabObj #[]) := by kernel_rfl
theorem k100 (P : Params) : (K P).lookup 100 = some (tabObj #[]) := by kernel_rfl
theorem el9 {A B C D E F G H I : Type} {R : Prop} {p : A → B → C → D → E → F → G → H → I → Prop} (h : ∃ a b c d e f g j i, p a b c d e f g j i) (k : ∀ a b c d e f g j i, p a b c d e f g j i → R) : R := by
  obtain ⟨a, b, c, d, e, f, g, j, i, h⟩ := h; exact k _ _ _ _ _ _ _ _ _ h
theorem hd_table {h : Heap} {c P : Addr} (C : CodeHd h c P) : isCodeTable h P :=
  el9 C fun o vs _ _ _ _ _ _ _ C => ⟨c, o, vs, C.1, C.2.1, C.2.2.1, C.2.2.2.1⟩
theorem oldK {P : Params} {h h' : Heap} (B : Bas P h) (h23 : h.get? 23 = some (tabObj #[])) (h93 : h.get? 93 = some (tabObj #[])) (h100 : h.get? 100 = some (tabObj #[])) (k : Off [23, 93, 100] h h')
    (g23 : ∃ ps, h'.get? 23 = some (tabObj ps)) (g93 : ∃ ps, h'.get? 93 = some (tabObj ps)) (g100 : ∃ ps, h'.get? 100 = some (tabObj ps)) : OldK h h' := by
  have tab : ∀ {T c : Addr}, CodeHd h c T → h.get? T = some (tabObj #[]) → (∃ ps, h'.get? T = some (tabObj ps)) → ∀ o, h.get? T = some o → asItWas h h' T o := fun C e ⟨ps, e'⟩ o eo => by
    rw [e] at eo; cases eo
    exact .inr (.inl ⟨hd_table C, rfl, #[], ps, rfl, by rw [e']; simp⟩)
  refine ⟨fun b o e => ?_, fun b o e => ?_⟩
  · by_cases hb : b ∈ [23, 93, 100]
    · simp only [List.mem_cons, List.not_mem_nil, or_false] at hb
      rcases hb with rfl | rfl | rfl
      · exact tab B.hd27 h23 g23 o e
      · exact tab B.hd97 h93 g93 o e
      · exact tab B.hd104 h100 g100 o e
    · exact .inl (k b o hb e)
  · by_cases hb : b ∈ [23, 93, 100]
    · simp only [List.mem_cons, List.not_mem_nil, or_false] at hb
      rcases hb with rfl | rfl | rfl
      · obtain ⟨ps, e'⟩ := g23; exact ⟨_, e'⟩
      · obtain ⟨ps, e'⟩ := g93; exact ⟨_, e'⟩
      · obtain ⟨ps, e'⟩ := g100; exact ⟨_, e'⟩
    · exact ⟨o, k b o hb e⟩
theorem tb0 {h : Heap} {T : Addr} {pos : Pos} {q : Str} (e : h.get? T = some (tabObj #[])) : Tb h T pos q := ⟨#[], e, trivial, .inl rfl⟩
theorem lawEnd {w : World} {s : Shared} {vs : List Value} {ns : List Int} {Q : Value → Shared → Prop} {E : Value → Shared → Prop} (KX : (K w.params).In s.heap) (hsz : s.heap.objs.size = 111 + 1) (hl : s.heap.IsList 111 vs.toArray) (hi : IntsAre vs ns) (h63 : vs.length ≤ 63)
    (h : ∀ h' tk, OldK s.heap h' → Q (.bool true) { s with heap := h', toks := tk }) (p : Pos) :
    Sem.wp (model prog w) Gam0 (call (.ref 110) [.ref 111]) (fun v _ s' => Q v s') (fun e _ s' => E e s') p s := by
  have B : Bas w.params s.heap := fun a o e _ => KX a o e
  have h23 := KX _ _ (k23 w.params)
  have h93 := KX _ _ (k93 w.params)
  have h100 := KX _ _ (k100 w.params)
  exact lawC (Q := Q) (E := E) gam0_in ⟨rfl, by decide, by decide⟩ (by decide) (by decide) gam0_cln B (tb0 h93) (tb0 h100) h23 (by rw [hsz]; exact Nat.lt_succ_self _) hl hi (by omega) (fun h' tk k a b c => h h' tk (oldK B h23 h93 h100 k a b c)) p
set_option maxRecDepth 100000 in
set_option maxHeartbeats 0 in
theorem fin : PySem.Challenge.rw_oc0077_01.Holds := by
  refine main.2 ?_
  intro w s₀ s₁ mg mb G y fa o pm cd doc dV kV ho hd hcd hD hmg hg args vals as L hpre hlay hrd hwl hlo
  z_open y L KX ZH ZN ZT
  refine Ground.open G ?_
  intro T B D TE TW
  wrow_args hpre hlay hrd hwl hlo
  obtain ⟨hat, hsz⟩ := script_at L
  have htk := script_toks L ZT
  rw [ZN] at hat hsz
  subst hat
  x_fa T KX hmg
  all_lens
  clear ho hd hcd hD hmg G y B D TE TW
  rename_i ns _ _ _ _ _ _ _ vs _ _ _ hc _ hl _ _ hi hb p
  refine lawEnd (E := fun e s' => _) KX hsz hl hi ?_ ?_ p
  · have := hb.1
    omega
  · intro h' tk k
    refine ⟨.inl ⟨_, .bool true, [], rfl, fun cls => ?_, ?_, ?_, ?_⟩, k, rfl, AllBare.of_eq hg⟩
    · rfl
    · exact .bool true
    · first | rfl | wrow_post
    · intro hu
      exact ⟨List.nodup_nil, fun a ha => by cases ha⟩
end Mine
end
theorem PySem.Challenge.cw_oc0077_01_holds : PySem.Challenge.rw_oc0077_01.Holds :=
  Mine.fin
